import JvmDerived
import JvmDerived.Pilot.@@N@@Statement
import JvmDerived.Pilot.@@N@@Code
set_option linter.unusedVariables false
set_option linter.unusedSimpArgs false
namespace Jvm.Pilot.@@N@@
open Jvm Jvm.ClassFile Sem Op Lib Jvm.Free Jvm.Stand Jvm.LawKit Jvm.RoadKit Bundle Jvm.Pilot.@@N@@.Jvm.D
abbrev St (p : Program) (e : Env) (below : List Frame) (T : State) (g : JFrame) (t : State) : Prop := Steps p.tables e below (T.setTop g) t
theorem ww {Z : State} {a0 : Array Value} (hw : ∀ d ∈ tables_1, d.before a0 Z = true) {d : Jvm.Cond} (i : Nat) (h : tables_1[i]? = some d) : d.before a0 Z = true := hw _ (List.mem_of_getElem? h)
theorem ltI {a b : Int32} (h : a < b) : a.toInt < b.toInt := Int32.lt_iff_toInt_lt.mp h
theorem nltI {a b : Int32} (h : ¬ a < b) : ¬ a.toInt < b.toInt := mt Int32.lt_iff_toInt_lt.mpr h
theorem eqI {a b : Int32} (h : a = b) : a.toInt = b.toInt := congrArg Int32.toInt h
theorem neI {a b : Int32} (h : ¬ a = b) : ¬ a.toInt = b.toInt := mt Int32.toInt_inj.mp h
theorem ltJ {a b : Int64} (h : a < b) : a.toInt < b.toInt := Int64.lt_iff_toInt_lt.mp h
theorem nltJ {a b : Int64} (h : ¬ a < b) : ¬ a.toInt < b.toInt := mt Int64.lt_iff_toInt_lt.mpr h
theorem eqJ {a b : Int64} (h : a = b) : a.toInt = b.toInt := congrArg Int64.toInt h
theorem neJ {a b : Int64} (h : ¬ a = b) : ¬ a.toInt = b.toInt := mt Int64.toInt_inj.mp h
theorem own_eqI {args : Array Value} {s : State} {t : Term} {k : Int32} (h : (Jvm.Cond.eq t (.int k)).value args s none s [] = some true) : t.eval args s none [] s = some (.int k) := by
  obtain ⟨x, y, ex, ey, k1, k2⟩ := cmp_v (Or.inl h)
  obtain rfl : y = .int k := Option.some.inj (ey.symm.trans (Term.int_eval k))
  obtain ⟨z, rfl⟩ := k2
  rw [ex, gotT (Cond.eq_ints ex ey) h]
theorem own_eqJ {args : Array Value} {s : State} {t : Term} {k : Int64} (h : (Jvm.Cond.eq t (.long k)).value args s none s [] = some true) : t.eval args s none [] s = some (.long k) := by
  obtain ⟨x, y, ex, ey, k1, k2⟩ := cmp_v (Or.inl h)
  obtain rfl : y = .long k := Option.some.inj (ey.symm.trans (long_at k))
  obtain ⟨z, rfl⟩ := k2
  rw [ex, gotT (eq_L ex ey) h]
theorem own_eqR {args : Array Value} {s : State} {t u : Term} {b : Addr} (h : (Jvm.Cond.eq t u).value args s none s [] = some true) (hu : u.eval args s none [] s = some (.ref b)) : t.eval args s none [] s = some (.ref b) := by
  obtain ⟨x, y, ex, ey, k1, k2⟩ := cmp_v (Or.inl h)
  obtain rfl : y = .ref b := Option.some.inj (ey.symm.trans hu)
  have hx : x.isRef = true := k2.2
  rw [ex, gotT (eq_R ex ey hx rfl) h]
theorem own_len {args : Array Value} {s : State} {t : Term} {a : Addr} {cl : Cell} {ty : FieldType} {k : Int32} (ev : t.eval args s none [] s = some (.ref a)) (A : Arr s s.heap a cl ty) (h : (Term.length t).eval args s none [] s = some (.int k)) : cl.slots.size < 2 ^ 31 ∧ cl.slots.size.toInt32 = k := by
  have ha := A.fin (Vm.Alike.refl _)
  by_cases hl : cl.slots.size < 2 ^ 31
  · exact ⟨hl, Value.int.inj (Option.some.inj ((len_f ev ha hl).symm.trans h))⟩
  · exfalso; simp [Term.eval, ev, ha, hl] at h
theorem own_sel {Z : State} {a0 : Array Value} {y : MethodName} {n : Nat} (wi : (Jvm.Cond.instantiable y.cls n).before a0 Z = true) (wp : (Jvm.Cond.privateMethod y).before a0 Z = true) (wm : (Jvm.Cond.instanceMethod y).before a0 Z = true) (hy : y.cls ≠ "java/lang/invoke/MethodHandle" ∧ y.cls ≠ "java/lang/invoke/VarHandle") : (Jvm.Cond.selects y.cls y y).before a0 Z = true := by
  obtain ⟨c, k, h1, h2, h3, h4, -⟩ := Cond.instantiable_spec wi
  exact selects_self_of_private h1 h2 (by simp only [Bool.or_eq_false_iff] at h4; exact h4.1) (Cond.privateMethod_at wp) wm hy
def own_nz (x : Int64) : Int32 := if x = 0 then 0 else 1
theorem own_c_nz (x : Int64) : (x.toInt = 0 → (own_nz x).toInt = 0) ∧ (x.toInt ≠ 0 → (own_nz x).toInt = 1) := by
  unfold own_nz
  by_cases h : x = 0
  · subst h; exact ⟨fun _ => by decide, fun q => absurd (by decide) q⟩
  · rw [if_neg h]; exact ⟨fun q => absurd (Int64.toInt_inj.mp (q.trans (by decide : (0 : Int) = (0 : Int64).toInt))) h, fun _ => by decide⟩
theorem own_lrem {p : Program} {l : Launch} {e : Env} {R : Room} {s : State} {m : MethodId} {args : Array Value} {below : List Frame} {meth : Method} {c : Code} {T target : State} {locs : List Loc} {cells slots : Nat} {g : JFrame} (X : Stand p l e R s m args below meth c T locs cells slots) (hx : p.tables.exec = Jvm.exec) (hg : g.method = m) {x y : Int64} {rest : List Value} (hd : decode c.code g.pc = .ok (.lrem, 1)) (hs : g.stack = .long y :: .long x :: rest) (hy : y ≠ 0) (hr : Steps p.tables e below (T.setTop { g with pc := g.pc + 1, stack := .long (x % y) :: rest }) target) : Steps p.tables e below (T.setTop g) target :=
  XS.lrem X.here hx hg hd hs hy (by rw [lrem_mod]; exact hr)
theorem own_c_lrem (x y : Int64) (d : Int) (hy : y.toInt = d) : (0 ≤ x.toInt → (x % y).toInt = x.toInt % d) ∧ (x.toInt < 0 → (x % y).toInt = -((-x.toInt) % d)) := by
  rw [← lrem_mod]; exact c_lrem x y d hy
theorem own_old_le {Z : State} {n0 : Nat} {h : Heap} (O : Old Z n0 h) : n0 ≤ h.size := O.1 ▸ O.2.1
abbrev M0 : MethodName := ⟨"com/example/vacant_throne/vacantthrone/core/Ranges", "require", "(Ljava/lang/String;JJJ)J"⟩
abbrev M1 : MethodName := ⟨"com/example/vacant_throne/vacantthrone/core/Heartbeat", "<init>", "(ZIJIIJJJ)V"⟩
abbrev M2 : MethodName := ⟨"com/example/vacant_throne/vacantthrone/core/HeartbeatEqualsPinLaw", "make", "([J)Lcom/example/vacant_throne/vacantthrone/core/Heartbeat;"⟩
abbrev M3 : MethodName := ⟨"java/lang/Number", "<init>", "()V"⟩
abbrev M4 : MethodName := ⟨"java/lang/Long", "<init>", "(J)V"⟩
abbrev M5 : MethodName := ⟨"java/lang/Long", "valueOf", "(J)Ljava/lang/Long;"⟩
abbrev M6 : MethodName := ⟨"com/example/vacant_throne/vacantthrone/core/Heartbeat", "equals", "(Ljava/lang/Object;)Z"⟩
theorem lJ4294967295 : (4294967295 : Int64).toInt = 4294967295 := by decide
theorem lJ0 : (0 : Int64).toInt = 0 := by decide
theorem lJ1 : (1 : Int64).toInt = 1 := by decide
theorem lI65535 : (65535 : Int32).toInt = 65535 := by decide
theorem lJ65535 : (65535 : Int64).toInt = 65535 := by decide
theorem lI16 : (16 : Int32).toInt = 16 := by decide
theorem lI32 : (32 : Int32).toInt = 32 := by decide
theorem lI2147483647 : (2147483647 : Int32).toInt = 2147483647 := by decide
theorem lI9 : (9 : Int32).toInt = 9 := by decide
theorem lI0 : (0 : Int32).toInt = 0 := by decide
theorem lI8 : (8 : Int32).toInt = 8 := by decide
theorem lI1 : (1 : Int32).toInt = 1 := by decide
theorem lI2 : (2 : Int32).toInt = 2 := by decide
theorem lI3 : (3 : Int32).toInt = 3 := by decide
theorem lI4 : (4 : Int32).toInt = 4 := by decide
theorem lI5 : (5 : Int32).toInt = 5 := by decide
theorem lI6 : (6 : Int32).toInt = 6 := by decide
theorem lI7 : (7 : Int32).toInt = 7 := by decide
theorem lJm128 : (-128 : Int64).toInt = -128 := by decide
theorem lJ127 : (127 : Int64).toInt = 127 := by decide
theorem lI128 : (128 : Int32).toInt = 128 := by decide
theorem lI256 : (256 : Int32).toInt = 256 := by decide
def own_eq8 (a0 : Int32) (a1 : Int32) (a2 : Int64) (a3 : Int32) (a4 : Int32) (a5 : Int64) (a6 : Int64) (a7 : Int64) (b0 : Int32) (b1 : Int32) (b2 : Int64) (b3 : Int32) (b4 : Int32) (b5 : Int64) (b6 : Int64) (b7 : Int64) : Int32 := if a0 = b0 then (if a1 = b1 then (if a2 = b2 then (if a3 = b3 then (if a4 = b4 then (if a5 = b5 then (if a6 = b6 then (if a7 = b7 then 1 else 0) else 0) else 0) else 0) else 0) else 0) else 0) else 0
theorem own_c_eq8 (a0 : Int32) (a1 : Int32) (a2 : Int64) (a3 : Int32) (a4 : Int32) (a5 : Int64) (a6 : Int64) (a7 : Int64) (b0 : Int32) (b1 : Int32) (b2 : Int64) (b3 : Int32) (b4 : Int32) (b5 : Int64) (b6 : Int64) (b7 : Int64) : (a0.toInt = b0.toInt ∧ a1.toInt = b1.toInt ∧ a2.toInt = b2.toInt ∧ a3.toInt = b3.toInt ∧ a4.toInt = b4.toInt ∧ a5.toInt = b5.toInt ∧ a6.toInt = b6.toInt ∧ a7.toInt = b7.toInt → (own_eq8 a0 a1 a2 a3 a4 a5 a6 a7 b0 b1 b2 b3 b4 b5 b6 b7).toInt = 1) ∧ (¬ (a0.toInt = b0.toInt ∧ a1.toInt = b1.toInt ∧ a2.toInt = b2.toInt ∧ a3.toInt = b3.toInt ∧ a4.toInt = b4.toInt ∧ a5.toInt = b5.toInt ∧ a6.toInt = b6.toInt ∧ a7.toInt = b7.toInt) → (own_eq8 a0 a1 a2 a3 a4 a5 a6 a7 b0 b1 b2 b3 b4 b5 b6 b7).toInt = 0) := by
  unfold own_eq8
  simp only [← Int32.toInt_inj, ← Int64.toInt_inj]
  have p1 : (1 : Int32).toInt = 1 := by decide
  have z0 : (0 : Int32).toInt = 0 := by decide
  constructor
  · rintro ⟨h0, h1, h2, h3, h4, h5, h6, h7⟩; rw [if_pos h0, if_pos h1, if_pos h2, if_pos h3, if_pos h4, if_pos h5, if_pos h6, if_pos h7]; exact p1
  · intro h
    (repeat' split) <;> first | exact z0 | exact absurd ⟨by assumption, by assumption, by assumption, by assumption, by assumption, by assumption, by assumption, by assumption⟩ h
theorem own_eq8_1 {a0 : Int32} {a1 : Int32} {a2 : Int64} {a3 : Int32} {a4 : Int32} {a5 : Int64} {a6 : Int64} {a7 : Int64} {b0 : Int32} {b1 : Int32} {b2 : Int64} {b3 : Int32} {b4 : Int32} {b5 : Int64} {b6 : Int64} {b7 : Int64} (h0 : a0 = b0) (h1 : a1 = b1) (h2 : a2 = b2) (h3 : a3 = b3) (h4 : a4 = b4) (h5 : a5 = b5) (h6 : a6 = b6) (h7 : a7 = b7) : own_eq8 a0 a1 a2 a3 a4 a5 a6 a7 b0 b1 b2 b3 b4 b5 b6 b7 = 1 := by
  unfold own_eq8; rw [if_pos h0, if_pos h1, if_pos h2, if_pos h3, if_pos h4, if_pos h5, if_pos h6, if_pos h7]
theorem own_eq8_n0 {a0 : Int32} {a1 : Int32} {a2 : Int64} {a3 : Int32} {a4 : Int32} {a5 : Int64} {a6 : Int64} {a7 : Int64} {b0 : Int32} {b1 : Int32} {b2 : Int64} {b3 : Int32} {b4 : Int32} {b5 : Int64} {b6 : Int64} {b7 : Int64} (h : ¬ (a0 = b0)) : own_eq8 a0 a1 a2 a3 a4 a5 a6 a7 b0 b1 b2 b3 b4 b5 b6 b7 = 0 := by
  unfold own_eq8; simp [h]
theorem own_eq8_n1 {a0 : Int32} {a1 : Int32} {a2 : Int64} {a3 : Int32} {a4 : Int32} {a5 : Int64} {a6 : Int64} {a7 : Int64} {b0 : Int32} {b1 : Int32} {b2 : Int64} {b3 : Int32} {b4 : Int32} {b5 : Int64} {b6 : Int64} {b7 : Int64} (h : ¬ (a1 = b1)) : own_eq8 a0 a1 a2 a3 a4 a5 a6 a7 b0 b1 b2 b3 b4 b5 b6 b7 = 0 := by
  unfold own_eq8; simp [h]
theorem own_eq8_n2 {a0 : Int32} {a1 : Int32} {a2 : Int64} {a3 : Int32} {a4 : Int32} {a5 : Int64} {a6 : Int64} {a7 : Int64} {b0 : Int32} {b1 : Int32} {b2 : Int64} {b3 : Int32} {b4 : Int32} {b5 : Int64} {b6 : Int64} {b7 : Int64} (h : ¬ (a2 = b2)) : own_eq8 a0 a1 a2 a3 a4 a5 a6 a7 b0 b1 b2 b3 b4 b5 b6 b7 = 0 := by
  unfold own_eq8; simp [h]
theorem own_eq8_n3 {a0 : Int32} {a1 : Int32} {a2 : Int64} {a3 : Int32} {a4 : Int32} {a5 : Int64} {a6 : Int64} {a7 : Int64} {b0 : Int32} {b1 : Int32} {b2 : Int64} {b3 : Int32} {b4 : Int32} {b5 : Int64} {b6 : Int64} {b7 : Int64} (h : ¬ (a3 = b3)) : own_eq8 a0 a1 a2 a3 a4 a5 a6 a7 b0 b1 b2 b3 b4 b5 b6 b7 = 0 := by
  unfold own_eq8; simp [h]
theorem own_eq8_n4 {a0 : Int32} {a1 : Int32} {a2 : Int64} {a3 : Int32} {a4 : Int32} {a5 : Int64} {a6 : Int64} {a7 : Int64} {b0 : Int32} {b1 : Int32} {b2 : Int64} {b3 : Int32} {b4 : Int32} {b5 : Int64} {b6 : Int64} {b7 : Int64} (h : ¬ (a4 = b4)) : own_eq8 a0 a1 a2 a3 a4 a5 a6 a7 b0 b1 b2 b3 b4 b5 b6 b7 = 0 := by
  unfold own_eq8; simp [h]
theorem own_eq8_n5 {a0 : Int32} {a1 : Int32} {a2 : Int64} {a3 : Int32} {a4 : Int32} {a5 : Int64} {a6 : Int64} {a7 : Int64} {b0 : Int32} {b1 : Int32} {b2 : Int64} {b3 : Int32} {b4 : Int32} {b5 : Int64} {b6 : Int64} {b7 : Int64} (h : ¬ (a5 = b5)) : own_eq8 a0 a1 a2 a3 a4 a5 a6 a7 b0 b1 b2 b3 b4 b5 b6 b7 = 0 := by
  unfold own_eq8; simp [h]
theorem own_eq8_n6 {a0 : Int32} {a1 : Int32} {a2 : Int64} {a3 : Int32} {a4 : Int32} {a5 : Int64} {a6 : Int64} {a7 : Int64} {b0 : Int32} {b1 : Int32} {b2 : Int64} {b3 : Int32} {b4 : Int32} {b5 : Int64} {b6 : Int64} {b7 : Int64} (h : ¬ (a6 = b6)) : own_eq8 a0 a1 a2 a3 a4 a5 a6 a7 b0 b1 b2 b3 b4 b5 b6 b7 = 0 := by
  unfold own_eq8; simp [h]
theorem own_eq8_n7 {a0 : Int32} {a1 : Int32} {a2 : Int64} {a3 : Int32} {a4 : Int32} {a5 : Int64} {a6 : Int64} {a7 : Int64} {b0 : Int32} {b1 : Int32} {b2 : Int64} {b3 : Int32} {b4 : Int32} {b5 : Int64} {b6 : Int64} {b7 : Int64} (h : ¬ (a7 = b7)) : own_eq8 a0 a1 a2 a3 a4 a5 a6 a7 b0 b1 b2 b3 b4 b5 b6 b7 = 0 := by
  unfold own_eq8; simp [h]
def own_lo (k : Int32) : Int64 := if k = 2 then 1 else if k = 6 then -9223372036854775808 else 0
def own_hi (k : Int32) : Int64 := if k = 0 then 1 else if k = 1 then 65535 else if k = 3 then 65535 else if k = 4 then 65535 else if k = 6 then 9223372036854775807 else 4294967295
theorem own_c_lo (k : Int32) : (k.toInt = 2 → (own_lo k).toInt = 1) ∧ (k.toInt = 6 → (own_lo k).toInt = -9223372036854775808) ∧ (k.toInt ≠ 2 → k.toInt ≠ 6 → (own_lo k).toInt = 0) := by
  unfold own_lo
  have l2 : (2 : Int32).toInt = 2 := by decide
  have l6 : (6 : Int32).toInt = 6 := by decide
  simp only [← Int32.toInt_inj, l2, l6]
  have q1 : (1 : Int64).toInt = 1 := by decide
  have q2 : (-9223372036854775808 : Int64).toInt = -9223372036854775808 := by decide
  have q3 : (0 : Int64).toInt = 0 := by decide
  refine ⟨?_, ?_, ?_⟩ <;> intros <;> (repeat' split) <;> omega
theorem own_c_hi (k : Int32) : (k.toInt = 0 → (own_hi k).toInt = 1) ∧ (k.toInt = 1 ∨ k.toInt = 3 ∨ k.toInt = 4 → (own_hi k).toInt = 65535) ∧ (k.toInt = 6 → (own_hi k).toInt = 9223372036854775807) ∧ (k.toInt ≠ 0 → k.toInt ≠ 1 → k.toInt ≠ 3 → k.toInt ≠ 4 → k.toInt ≠ 6 → (own_hi k).toInt = 4294967295) := by
  unfold own_hi
  have l0 : (0 : Int32).toInt = 0 := by decide
  have l1 : (1 : Int32).toInt = 1 := by decide
  have l3 : (3 : Int32).toInt = 3 := by decide
  have l4 : (4 : Int32).toInt = 4 := by decide
  have l6 : (6 : Int32).toInt = 6 := by decide
  simp only [← Int32.toInt_inj, l0, l1, l3, l4, l6]
  have q1 : (1 : Int64).toInt = 1 := by decide
  have q2 : (65535 : Int64).toInt = 65535 := by decide
  have q3 : (9223372036854775807 : Int64).toInt = 9223372036854775807 := by decide
  have q4 : (4294967295 : Int64).toInt = 4294967295 := by decide
  refine ⟨?_, ?_, ?_, ?_⟩ <;> intros <;> (repeat' split) <;> omega
theorem own_ns_root {Z : State} {a0 : Array Value} {O K : String} {n : Nat} (w : (Jvm.Cond.noSuperclass O).before a0 Z = true) (wk : (Jvm.Cond.instantiable K n).before a0 Z = true) (hn : O ≠ K) : NS Z O K := by
  obtain ⟨t, kt, g1, -⟩ := Cond.instantiable_spec wk
  obtain ⟨c, k, h1, h2, h3, -⟩ := Cond.noSuperclass_spec w
  exact ⟨c, t, h1, g1, fun fuel => by cases fuel <;> simp [Vm.isSubclassAux, ids_ne h1 g1 hn, h2, h3]⟩
theorem own_ns_no {Z : State} {a0 : Array Value} {C S K : String} {n : Nat} (w : (Jvm.Cond.superclass C S).before a0 Z = true) (wk : (Jvm.Cond.instantiable K n).before a0 Z = true) (ns : NS Z C K) (hn : C ≠ K) : ∃ c t, Z.vm.findClass C = some c ∧ Z.vm.findClass K = some t ∧ Z.vm.assignable c t = false := by
  obtain ⟨c, t, h0, g0, n3⟩ := ns
  obtain ⟨t', kt, g1, g2, g3, g4, -⟩ := Cond.instantiable_spec wk
  cases g0.symm.trans g1
  obtain ⟨q, k, kq, h1, h2, h3, h4, h5, -⟩ := Cond.superclass_spec h0 w
  have hi : kt.isInterface = false := by simp only [Bool.or_eq_false_iff] at g4; exact g4.1
  refine ⟨c, t, h0, g0, ?_⟩
  show Z.vm.assignableAux (255 + 1) c t = false
  simp [Vm.assignableAux, ids_ne h0 g0 hn, h2, g2, h5, g3, hi, Vm.isSubclass, n3]
theorem own_string_atoms {Z : State} {a0 : Array Value} (hw : ∀ d ∈ tables_1, d.before a0 Z = true) : ∀ a ∈ Bundle.stringAtoms, a.before a0 Z = true := by
  intro a ha
  simp only [Bundle.stringAtoms, List.mem_cons, List.not_mem_nil, or_false] at ha
  rcases ha with rfl | rfl | rfl | rfl | rfl | rfl | rfl
  · exact (ww hw 22 rfl)
  · exact (ww hw 23 rfl)
  · exact (ww hw 24 rfl)
  · exact (ww hw 25 rfl)
  · exact (ww hw 26 rfl)
  · exact (ww hw 27 rfl)
  · exact (ww hw 28 rfl)
def Env1 (Z : State) (a_cache : Addr) (clC : Cell) : Prop := Sta Z Z.heap "java/lang/Long$LongCache" "cache" "[Ljava/lang/Long;" (.ref a_cache) ∧
  Arr Z Z.heap a_cache clC (.object "java/lang/Long") ∧
  clC.slots.size = (256 : Int32).toNatClampNeg ∧
  ∀ j : Int32, ¬ (j < (0 : Int32)) → j < (256 : Int32) → ∃ b : Addr, clC.slots[j.toNatClampNeg]? = some (.ref b) ∧ Exa Z Z.heap b "java/lang/Long"
theorem ef0 (m : MethodId) (x0 : Int64) (x1 : Int64) (x2 : Int64) (x3 : Int32) (x4 : Int32) (x5 : Int64) : entryFrame m #[(.long x0), (.long x1), (.long x2), (.int x3), (.int x4), (.long x5)] maxLocals = mkF m 0 #[.val (.long x0), .second, .val (.long x1), .second, .val (.long x2), .second, .val (.int x3), .val (.int x4), .val (.long x5), .second, .unset, .unset, .unset, .unset, .unset, .unset, .unset, .unset, .unset, .unset, .unset] [] := by first | (simp [entryFrame, mkF, argsToLocals, Value.category, maxLocals]; done) | rfl
theorem pn0 : plainName "com/example/vacant_throne/vacantthrone/core/HeartbeatEqualsPinLaw" = true := by first | (simp [plainName, overriddenIn]; done) | decide +kernel
theorem ar0 {y0 : Int64} (h0 : ¬ ((y0 &&& (4294967295 : Int64)) = (0 : Int64))) (h1 : (y0 &&& (4294967295 : Int64)) < (1 : Int64)) : False := by
  have q1_ := neJ h0
  have q2_ := ltJ h1
  have l3_ := rng64 y0
  have l4_ := lJ4294967295
  have l5_ : (y0 &&& (4294967295 : Int64)).toInt = y0.toInt % 4294967296 := c_maskL y0 (4294967295 : Int64) 32 (by decide) (by decide)
  have l6_ := lJ0
  have l7_ := lJ1
  omega
theorem ar1 {y0 : Int64} (h0 : ¬ ((y0 &&& (4294967295 : Int64)) = (0 : Int64))) (h1 : ¬ ((y0 &&& (4294967295 : Int64)) < (1 : Int64))) (h2 : (4294967295 : Int64) < (y0 &&& (4294967295 : Int64))) : False := by
  have q1_ := neJ h0
  have q2_ := nltJ h1
  have q3_ := ltJ h2
  have l4_ := rng64 y0
  have l5_ := lJ4294967295
  have l6_ : (y0 &&& (4294967295 : Int64)).toInt = y0.toInt % 4294967296 := c_maskL y0 (4294967295 : Int64) 32 (by decide) (by decide)
  have l7_ := lJ0
  have l8_ := lJ1
  omega
theorem ar2 {x0 : Int32} (h0 : ((x0 &&& (65535 : Int32)).toInt64) < (0 : Int64)) : False := by
  have q1_ := ltJ h0
  have l2_ := rng32 x0
  have l3_ := lI65535
  have l4_ : (x0 &&& (65535 : Int32)).toInt = x0.toInt % 65536 := c_mask x0 (65535 : Int32) 16 (by decide) (by decide)
  have l5_ := c_i2l (x0 &&& (65535 : Int32))
  have l6_ := lJ0
  omega
theorem ar3 {x0 : Int32} (h0 : (65535 : Int64) < ((x0 &&& (65535 : Int32)).toInt64)) : False := by
  have q1_ := ltJ h0
  have l2_ := lJ65535
  have l3_ := rng32 x0
  have l4_ := lI65535
  have l5_ : (x0 &&& (65535 : Int32)).toInt = x0.toInt % 65536 := c_mask x0 (65535 : Int32) 16 (by decide) (by decide)
  have l6_ := c_i2l (x0 &&& (65535 : Int32))
  omega
theorem ar4 {x0 : Int32} (h0 : (4294967295 : Int64) < ((x0 &&& (65535 : Int32)).toInt64)) : False := by
  have q1_ := ltJ h0
  have l2_ := lJ4294967295
  have l3_ := rng32 x0
  have l4_ := lI65535
  have l5_ : (x0 &&& (65535 : Int32)).toInt = x0.toInt % 65536 := c_mask x0 (65535 : Int32) 16 (by decide) (by decide)
  have l6_ := c_i2l (x0 &&& (65535 : Int32))
  omega
theorem ar5 {y0 : Int64} (h0 : (y0 &&& (65535 : Int64)) < (0 : Int64)) : False := by
  have q1_ := ltJ h0
  have l2_ := rng64 y0
  have l3_ := lJ65535
  have l4_ : (y0 &&& (65535 : Int64)).toInt = y0.toInt % 65536 := c_maskL y0 (65535 : Int64) 16 (by decide) (by decide)
  have l5_ := lJ0
  omega
theorem ar6 {y0 : Int64} (h0 : (65535 : Int64) < (y0 &&& (65535 : Int64))) : False := by
  have q1_ := ltJ h0
  have l2_ := lJ65535
  have l3_ := rng64 y0
  have l4_ : (y0 &&& (65535 : Int64)).toInt = y0.toInt % 65536 := c_maskL y0 (65535 : Int64) 16 (by decide) (by decide)
  omega
theorem ar7 {y0 : Int64} (h0 : (4294967295 : Int64) < (y0 &&& (65535 : Int64))) : False := by
  have q1_ := ltJ h0
  have l2_ := lJ4294967295
  have l3_ := rng64 y0
  have l4_ := lJ65535
  have l5_ : (y0 &&& (65535 : Int64)).toInt = y0.toInt % 65536 := c_maskL y0 (65535 : Int64) 16 (by decide) (by decide)
  omega
theorem ar8 {y0 : Int64} (h0 : (((y0.toUInt64 >>> ((16 : Int32) &&& 0x3f).toInt64.toUInt64).toInt64) &&& (65535 : Int64)) < (0 : Int64)) : False := by
  have q1_ := ltJ h0
  have l2_ := rng64 y0
  have l3_ := lI16
  have l4_ := c_lushr y0 (16 : Int32) 16 (by decide) (by decide)
  have l4b_ := rng64 ((y0.toUInt64 >>> ((16 : Int32) &&& 0x3f).toInt64.toUInt64).toInt64)
  have l5_ := lJ65535
  have l6_ : (((y0.toUInt64 >>> ((16 : Int32) &&& 0x3f).toInt64.toUInt64).toInt64) &&& (65535 : Int64)).toInt = ((y0.toUInt64 >>> ((16 : Int32) &&& 0x3f).toInt64.toUInt64).toInt64).toInt % 65536 := c_maskL ((y0.toUInt64 >>> ((16 : Int32) &&& 0x3f).toInt64.toUInt64).toInt64) (65535 : Int64) 16 (by decide) (by decide)
  have l7_ := lJ0
  omega
theorem ar9 {y0 : Int64} (h0 : (65535 : Int64) < (((y0.toUInt64 >>> ((16 : Int32) &&& 0x3f).toInt64.toUInt64).toInt64) &&& (65535 : Int64))) : False := by
  have q1_ := ltJ h0
  have l2_ := lJ65535
  have l3_ := rng64 y0
  have l4_ := lI16
  have l5_ := c_lushr y0 (16 : Int32) 16 (by decide) (by decide)
  have l5b_ := rng64 ((y0.toUInt64 >>> ((16 : Int32) &&& 0x3f).toInt64.toUInt64).toInt64)
  have l6_ : (((y0.toUInt64 >>> ((16 : Int32) &&& 0x3f).toInt64.toUInt64).toInt64) &&& (65535 : Int64)).toInt = ((y0.toUInt64 >>> ((16 : Int32) &&& 0x3f).toInt64.toUInt64).toInt64).toInt % 65536 := c_maskL ((y0.toUInt64 >>> ((16 : Int32) &&& 0x3f).toInt64.toUInt64).toInt64) (65535 : Int64) 16 (by decide) (by decide)
  omega
theorem ar10 {y0 : Int64} (h0 : (4294967295 : Int64) < (((y0.toUInt64 >>> ((16 : Int32) &&& 0x3f).toInt64.toUInt64).toInt64) &&& (65535 : Int64))) : False := by
  have q1_ := ltJ h0
  have l2_ := lJ4294967295
  have l3_ := rng64 y0
  have l4_ := lI16
  have l5_ := c_lushr y0 (16 : Int32) 16 (by decide) (by decide)
  have l5b_ := rng64 ((y0.toUInt64 >>> ((16 : Int32) &&& 0x3f).toInt64.toUInt64).toInt64)
  have l6_ := lJ65535
  have l7_ : (((y0.toUInt64 >>> ((16 : Int32) &&& 0x3f).toInt64.toUInt64).toInt64) &&& (65535 : Int64)).toInt = ((y0.toUInt64 >>> ((16 : Int32) &&& 0x3f).toInt64.toUInt64).toInt64).toInt % 65536 := c_maskL ((y0.toUInt64 >>> ((16 : Int32) &&& 0x3f).toInt64.toUInt64).toInt64) (65535 : Int64) 16 (by decide) (by decide)
  omega
theorem ar11 {y0 : Int64} (h0 : ((y0.toUInt64 >>> ((32 : Int32) &&& 0x3f).toInt64.toUInt64).toInt64) < (0 : Int64)) : False := by
  have q1_ := ltJ h0
  have l2_ := rng64 y0
  have l3_ := lI32
  have l4_ := c_lushr y0 (32 : Int32) 32 (by decide) (by decide)
  have l4b_ := rng64 ((y0.toUInt64 >>> ((32 : Int32) &&& 0x3f).toInt64.toUInt64).toInt64)
  have l5_ := lJ0
  omega
theorem ar12 {y0 : Int64} (h0 : (4294967295 : Int64) < ((y0.toUInt64 >>> ((32 : Int32) &&& 0x3f).toInt64.toUInt64).toInt64)) : False := by
  have q1_ := ltJ h0
  have l2_ := lJ4294967295
  have l3_ := rng64 y0
  have l4_ := lI32
  have l5_ := c_lushr y0 (32 : Int32) 32 (by decide) (by decide)
  have l5b_ := rng64 ((y0.toUInt64 >>> ((32 : Int32) &&& 0x3f).toInt64.toUInt64).toInt64)
  omega
theorem ar13 {x0 : Int32} (h0 : ((x0 &&& (2147483647 : Int32)) % (9 : Int32)) < (0 : Int32)) : False := by
  have q1_ := ltI h0
  have l2_ := rng32 x0
  have l3_ := lI2147483647
  have l4_ : (x0 &&& (2147483647 : Int32)).toInt = x0.toInt % 2147483648 := c_mask x0 (2147483647 : Int32) 31 (by decide) (by decide)
  have l5_ := lI9
  have l6_ := c_irem (x0 &&& (2147483647 : Int32)) (9 : Int32) 9 (by decide)
  have l7_ := lI0
  omega
theorem ar14 {x0 : Int32} (h0 : (8 : Int32) < ((x0 &&& (2147483647 : Int32)) % (9 : Int32))) : False := by
  have q1_ := ltI h0
  have l2_ := lI8
  have l3_ := rng32 x0
  have l4_ := lI2147483647
  have l5_ : (x0 &&& (2147483647 : Int32)).toInt = x0.toInt % 2147483648 := c_mask x0 (2147483647 : Int32) 31 (by decide) (by decide)
  have l6_ := lI9
  have l7_ := c_irem (x0 &&& (2147483647 : Int32)) (9 : Int32) 9 (by decide)
  omega
theorem ar15 {x0 : Int32} {y1 : Int64} (h0 : x0 = (0 : Int32)) (h1 : (y1 &&& (1 : Int64)) < (own_lo x0)) : False := by
  subst h0
  have q1_ := ltJ h1
  have l2_ := rng64 y1
  have l3_ := lJ1
  have l4_ : (y1 &&& (1 : Int64)).toInt = y1.toInt % 2 := c_maskL y1 (1 : Int64) 1 (by decide) (by decide)
  have l5_ := lI0
  have l6_ : (own_lo (0 : Int32)).toInt = 0 := by decide
  omega
theorem ar16 {x0 : Int32} {y1 : Int64} (h0 : x0 = (0 : Int32)) (h1 : ¬ ((y1 &&& (1 : Int64)) < (own_lo x0))) (h2 : (own_hi x0) < (y1 &&& (1 : Int64))) : False := by
  subst h0
  have q1_ := nltJ h1
  have q2_ := ltJ h2
  have l3_ := rng64 y1
  have l4_ := lJ1
  have l5_ : (y1 &&& (1 : Int64)).toInt = y1.toInt % 2 := c_maskL y1 (1 : Int64) 1 (by decide) (by decide)
  have l6_ := lI0
  have l7_ : (own_lo (0 : Int32)).toInt = 0 := by decide
  have l8_ : (own_hi (0 : Int32)).toInt = 1 := by decide
  omega
theorem ar17 {x0 : Int32} {y1 : Int64} (h0 : x0 = (1 : Int32)) (h1 : (y1 &&& (65535 : Int64)) < (own_lo x0)) : False := by
  subst h0
  have q1_ := ltJ h1
  have l2_ := rng64 y1
  have l3_ := lJ65535
  have l4_ : (y1 &&& (65535 : Int64)).toInt = y1.toInt % 65536 := c_maskL y1 (65535 : Int64) 16 (by decide) (by decide)
  have l5_ := lI1
  have l6_ : (own_lo (1 : Int32)).toInt = 0 := by decide
  omega
theorem ar18 {x0 : Int32} {y1 : Int64} (h0 : x0 = (1 : Int32)) (h1 : ¬ ((y1 &&& (65535 : Int64)) < (own_lo x0))) (h2 : (own_hi x0) < (y1 &&& (65535 : Int64))) : False := by
  subst h0
  have q1_ := nltJ h1
  have q2_ := ltJ h2
  have l3_ := rng64 y1
  have l4_ := lJ65535
  have l5_ : (y1 &&& (65535 : Int64)).toInt = y1.toInt % 65536 := c_maskL y1 (65535 : Int64) 16 (by decide) (by decide)
  have l6_ := lI1
  have l7_ : (own_lo (1 : Int32)).toInt = 0 := by decide
  have l8_ : (own_hi (1 : Int32)).toInt = 65535 := by decide
  omega
theorem ar19 {x0 : Int32} (h0 : x0 = (2 : Int32)) (h1 : (1 : Int64) < (own_lo x0)) : False := by
  subst h0
  have q1_ := ltJ h1
  have l2_ := lJ1
  have l3_ := lI2
  have l4_ : (own_lo (2 : Int32)).toInt = 1 := by decide
  omega
theorem ar20 {x0 : Int32} (h0 : x0 = (2 : Int32)) (h1 : (own_hi x0) < (1 : Int64)) : False := by
  subst h0
  have q1_ := ltJ h1
  have l2_ := lI2
  have l3_ : (own_hi (2 : Int32)).toInt = 4294967295 := by decide
  have l4_ := lJ1
  omega
theorem ar21 {x0 : Int32} {y1 : Int64} (h0 : x0 = (2 : Int32)) (h1 : ¬ ((y1 &&& (4294967295 : Int64)) = (0 : Int64))) (h2 : (y1 &&& (4294967295 : Int64)) < (own_lo x0)) : False := by
  subst h0
  have q1_ := neJ h1
  have q2_ := ltJ h2
  have l3_ := rng64 y1
  have l4_ := lJ4294967295
  have l5_ : (y1 &&& (4294967295 : Int64)).toInt = y1.toInt % 4294967296 := c_maskL y1 (4294967295 : Int64) 32 (by decide) (by decide)
  have l6_ := lJ0
  have l7_ := lI2
  have l8_ : (own_lo (2 : Int32)).toInt = 1 := by decide
  omega
theorem ar22 {x0 : Int32} {y1 : Int64} (h0 : x0 = (2 : Int32)) (h1 : ¬ ((y1 &&& (4294967295 : Int64)) = (0 : Int64))) (h2 : ¬ ((y1 &&& (4294967295 : Int64)) < (own_lo x0))) (h3 : (own_hi x0) < (y1 &&& (4294967295 : Int64))) : False := by
  subst h0
  have q1_ := neJ h1
  have q2_ := nltJ h2
  have q3_ := ltJ h3
  have l4_ := rng64 y1
  have l5_ := lJ4294967295
  have l6_ : (y1 &&& (4294967295 : Int64)).toInt = y1.toInt % 4294967296 := c_maskL y1 (4294967295 : Int64) 32 (by decide) (by decide)
  have l7_ := lJ0
  have l8_ := lI2
  have l9_ : (own_lo (2 : Int32)).toInt = 1 := by decide
  have l10_ : (own_hi (2 : Int32)).toInt = 4294967295 := by decide
  omega
theorem ar23 {x0 : Int32} {y1 : Int64} (h0 : x0 = (3 : Int32)) (h1 : (y1 &&& (65535 : Int64)) < (own_lo x0)) : False := by
  subst h0
  have q1_ := ltJ h1
  have l2_ := rng64 y1
  have l3_ := lJ65535
  have l4_ : (y1 &&& (65535 : Int64)).toInt = y1.toInt % 65536 := c_maskL y1 (65535 : Int64) 16 (by decide) (by decide)
  have l5_ := lI3
  have l6_ : (own_lo (3 : Int32)).toInt = 0 := by decide
  omega
theorem ar24 {x0 : Int32} {y1 : Int64} (h0 : x0 = (3 : Int32)) (h1 : ¬ ((y1 &&& (65535 : Int64)) < (own_lo x0))) (h2 : (own_hi x0) < (y1 &&& (65535 : Int64))) : False := by
  subst h0
  have q1_ := nltJ h1
  have q2_ := ltJ h2
  have l3_ := rng64 y1
  have l4_ := lJ65535
  have l5_ : (y1 &&& (65535 : Int64)).toInt = y1.toInt % 65536 := c_maskL y1 (65535 : Int64) 16 (by decide) (by decide)
  have l6_ := lI3
  have l7_ : (own_lo (3 : Int32)).toInt = 0 := by decide
  have l8_ : (own_hi (3 : Int32)).toInt = 65535 := by decide
  omega
theorem ar25 {x0 : Int32} {y1 : Int64} (h0 : x0 = (4 : Int32)) (h1 : (y1 &&& (65535 : Int64)) < (own_lo x0)) : False := by
  subst h0
  have q1_ := ltJ h1
  have l2_ := rng64 y1
  have l3_ := lJ65535
  have l4_ : (y1 &&& (65535 : Int64)).toInt = y1.toInt % 65536 := c_maskL y1 (65535 : Int64) 16 (by decide) (by decide)
  have l5_ := lI4
  have l6_ : (own_lo (4 : Int32)).toInt = 0 := by decide
  omega
theorem ar26 {x0 : Int32} {y1 : Int64} (h0 : x0 = (4 : Int32)) (h1 : ¬ ((y1 &&& (65535 : Int64)) < (own_lo x0))) (h2 : (own_hi x0) < (y1 &&& (65535 : Int64))) : False := by
  subst h0
  have q1_ := nltJ h1
  have q2_ := ltJ h2
  have l3_ := rng64 y1
  have l4_ := lJ65535
  have l5_ : (y1 &&& (65535 : Int64)).toInt = y1.toInt % 65536 := c_maskL y1 (65535 : Int64) 16 (by decide) (by decide)
  have l6_ := lI4
  have l7_ : (own_lo (4 : Int32)).toInt = 0 := by decide
  have l8_ : (own_hi (4 : Int32)).toInt = 65535 := by decide
  omega
theorem ar27 {x0 : Int32} {y1 : Int64} (h0 : x0 = (5 : Int32)) (h1 : (y1 &&& (4294967295 : Int64)) < (own_lo x0)) : False := by
  subst h0
  have q1_ := ltJ h1
  have l2_ := rng64 y1
  have l3_ := lJ4294967295
  have l4_ : (y1 &&& (4294967295 : Int64)).toInt = y1.toInt % 4294967296 := c_maskL y1 (4294967295 : Int64) 32 (by decide) (by decide)
  have l5_ := lI5
  have l6_ : (own_lo (5 : Int32)).toInt = 0 := by decide
  omega
theorem ar28 {x0 : Int32} {y1 : Int64} (h0 : x0 = (5 : Int32)) (h1 : ¬ ((y1 &&& (4294967295 : Int64)) < (own_lo x0))) (h2 : (own_hi x0) < (y1 &&& (4294967295 : Int64))) : False := by
  subst h0
  have q1_ := nltJ h1
  have q2_ := ltJ h2
  have l3_ := rng64 y1
  have l4_ := lJ4294967295
  have l5_ : (y1 &&& (4294967295 : Int64)).toInt = y1.toInt % 4294967296 := c_maskL y1 (4294967295 : Int64) 32 (by decide) (by decide)
  have l6_ := lI5
  have l7_ : (own_lo (5 : Int32)).toInt = 0 := by decide
  have l8_ : (own_hi (5 : Int32)).toInt = 4294967295 := by decide
  omega
theorem ar29 {x0 : Int32} {y1 : Int64} (h0 : x0 = (6 : Int32)) (h1 : y1 < (own_lo x0)) : False := by
  subst h0
  have q1_ := ltJ h1
  have l2_ := rng64 y1
  have l3_ := lI6
  have l4_ : (own_lo (6 : Int32)).toInt = -9223372036854775808 := by decide
  omega
theorem ar30 {x0 : Int32} {y1 : Int64} (h0 : x0 = (6 : Int32)) (h1 : ¬ (y1 < (own_lo x0))) (h2 : (own_hi x0) < y1) : False := by
  subst h0
  have q1_ := nltJ h1
  have q2_ := ltJ h2
  have l3_ := rng64 y1
  have l4_ := lI6
  have l5_ : (own_lo (6 : Int32)).toInt = -9223372036854775808 := by decide
  have l6_ : (own_hi (6 : Int32)).toInt = 9223372036854775807 := by decide
  omega
theorem ar31 {x0 : Int32} {y1 : Int64} (h0 : x0 = (7 : Int32)) (h1 : (y1 &&& (4294967295 : Int64)) < (own_lo x0)) : False := by
  subst h0
  have q1_ := ltJ h1
  have l2_ := rng64 y1
  have l3_ := lJ4294967295
  have l4_ : (y1 &&& (4294967295 : Int64)).toInt = y1.toInt % 4294967296 := c_maskL y1 (4294967295 : Int64) 32 (by decide) (by decide)
  have l5_ := lI7
  have l6_ : (own_lo (7 : Int32)).toInt = 0 := by decide
  omega
theorem ar32 {x0 : Int32} {y1 : Int64} (h0 : x0 = (7 : Int32)) (h1 : ¬ ((y1 &&& (4294967295 : Int64)) < (own_lo x0))) (h2 : (own_hi x0) < (y1 &&& (4294967295 : Int64))) : False := by
  subst h0
  have q1_ := nltJ h1
  have q2_ := ltJ h2
  have l3_ := rng64 y1
  have l4_ := lJ4294967295
  have l5_ : (y1 &&& (4294967295 : Int64)).toInt = y1.toInt % 4294967296 := c_maskL y1 (4294967295 : Int64) 32 (by decide) (by decide)
  have l6_ := lI7
  have l7_ : (own_lo (7 : Int32)).toInt = 0 := by decide
  have l8_ : (own_hi (7 : Int32)).toInt = 4294967295 := by decide
  omega
theorem ar33 {x0 : Int32} (h0 : ¬ (x0 < (0 : Int32))) (h1 : ¬ ((8 : Int32) < x0)) (h2 : ¬ (x0 = (0 : Int32))) (h3 : ¬ (x0 = (1 : Int32))) (h4 : ¬ (x0 = (2 : Int32))) (h5 : ¬ (x0 = (3 : Int32))) (h6 : ¬ (x0 = (4 : Int32))) (h7 : ¬ (x0 = (5 : Int32))) (h8 : ¬ (x0 = (6 : Int32))) (h9 : ¬ (x0 = (7 : Int32))) (h10 : (0 : Int64) < (own_lo x0)) : False := by
  have q1_ := nltI h0
  have q2_ := nltI h1
  have q3_ := neI h2
  have q4_ := neI h3
  have q5_ := neI h4
  have q6_ := neI h5
  have q7_ := neI h6
  have q8_ := neI h7
  have q9_ := neI h8
  have q10_ := neI h9
  have q11_ := ltJ h10
  have l12_ := rng32 x0
  have l13_ := lI0
  have l14_ := lI8
  have l15_ := lI1
  have l16_ := lI2
  have l17_ := lI3
  have l18_ := lI4
  have l19_ := lI5
  have l20_ := lI6
  have l21_ := lI7
  have l22_ := lJ0
  have l23_ := own_c_lo x0
  omega
theorem ar34 {x0 : Int32} (h0 : ¬ (x0 < (0 : Int32))) (h1 : ¬ ((8 : Int32) < x0)) (h2 : ¬ (x0 = (0 : Int32))) (h3 : ¬ (x0 = (1 : Int32))) (h4 : ¬ (x0 = (2 : Int32))) (h5 : ¬ (x0 = (3 : Int32))) (h6 : ¬ (x0 = (4 : Int32))) (h7 : ¬ (x0 = (5 : Int32))) (h8 : ¬ (x0 = (6 : Int32))) (h9 : ¬ (x0 = (7 : Int32))) (h10 : ¬ ((0 : Int64) < (own_lo x0))) (h11 : (own_hi x0) < (0 : Int64)) : False := by
  have q1_ := nltI h0
  have q2_ := nltI h1
  have q3_ := neI h2
  have q4_ := neI h3
  have q5_ := neI h4
  have q6_ := neI h5
  have q7_ := neI h6
  have q8_ := neI h7
  have q9_ := neI h8
  have q10_ := neI h9
  have q11_ := nltJ h10
  have q12_ := ltJ h11
  have l13_ := rng32 x0
  have l14_ := lI0
  have l15_ := lI8
  have l16_ := lI1
  have l17_ := lI2
  have l18_ := lI3
  have l19_ := lI4
  have l20_ := lI5
  have l21_ := lI6
  have l22_ := lI7
  have l23_ := lJ0
  have l24_ := own_c_lo x0
  have l25_ := own_c_hi x0
  omega
theorem ef1 (m : MethodId) (x0 : Addr) : entryFrame m #[(.ref x0)] 1 = mkF m 0 #[.val (.ref x0)] [] := by first | (simp [entryFrame, mkF, argsToLocals, Value.category]; done) | rfl
theorem d1_0 : decode method_2_code 0 = .ok (.new 7, 3) := by decide +kernel
theorem d1_3 : decode method_2_code 3 = .ok (.dup, 1) := by decide +kernel
theorem d1_4 : decode method_2_code 4 = .ok (.aload_n 0, 1) := by decide +kernel
theorem d1_5 : decode method_2_code 5 = .ok (.iconst 0, 1) := by decide +kernel
theorem d1_6 : decode method_2_code 6 = .ok (.laload, 1) := by decide +kernel
theorem d1_7 : decode method_2_code 7 = .ok (.lconst 0, 1) := by decide +kernel
theorem d1_8 : decode method_2_code 8 = .ok (.lcmp, 1) := by decide +kernel
theorem d1_9 : decode method_2_code 9 = .ok (.ifCond .eq 7, 3) := by decide +kernel
theorem d1_16 : decode method_2_code 16 = .ok (.iconst 0, 1) := by decide +kernel
theorem d1_12 : decode method_2_code 12 = .ok (.iconst 1, 1) := by decide +kernel
theorem d1_13 : decode method_2_code 13 = .ok (.goto 4, 3) := by decide +kernel
theorem ar35 {y0 : Int64} (h0 : y0 = (0 : Int64)) (h1 : ¬ ((0 : Int32) = (own_nz y0))) : False := by
  subst h0
  have q1_ := neI h1
  have l2_ := lI0
  have l3_ := lJ0
  have l4_ : (own_nz (0 : Int64)).toInt = 0 := by decide
  omega
theorem ar36 {y0 : Int64} (h0 : ¬ (y0 = (0 : Int64))) (h1 : ¬ ((1 : Int32) = (own_nz y0))) : False := by
  have q1_ := neJ h0
  have q2_ := neI h1
  have l3_ := rng64 y0
  have l4_ := lJ0
  have l5_ := lI1
  have l6_ := own_c_nz y0
  omega
theorem d1_17 : decode method_2_code 17 = .ok (.aload_n 0, 1) := by decide +kernel
theorem d1_18 : decode method_2_code 18 = .ok (.iconst 1, 1) := by decide +kernel
theorem d1_19 : decode method_2_code 19 = .ok (.laload, 1) := by decide +kernel
theorem d1_20 : decode method_2_code 20 = .ok (.l2i, 1) := by decide +kernel
theorem d1_21 : decode method_2_code 21 = .ok (.aload_n 0, 1) := by decide +kernel
theorem d1_22 : decode method_2_code 22 = .ok (.iconst 2, 1) := by decide +kernel
theorem d1_23 : decode method_2_code 23 = .ok (.laload, 1) := by decide +kernel
theorem d1_24 : decode method_2_code 24 = .ok (.aload_n 0, 1) := by decide +kernel
theorem d1_25 : decode method_2_code 25 = .ok (.iconst 3, 1) := by decide +kernel
theorem d1_26 : decode method_2_code 26 = .ok (.laload, 1) := by decide +kernel
theorem d1_27 : decode method_2_code 27 = .ok (.l2i, 1) := by decide +kernel
theorem d1_28 : decode method_2_code 28 = .ok (.aload_n 0, 1) := by decide +kernel
theorem d1_29 : decode method_2_code 29 = .ok (.iconst 4, 1) := by decide +kernel
theorem d1_30 : decode method_2_code 30 = .ok (.laload, 1) := by decide +kernel
theorem d1_31 : decode method_2_code 31 = .ok (.l2i, 1) := by decide +kernel
theorem d1_32 : decode method_2_code 32 = .ok (.aload_n 0, 1) := by decide +kernel
theorem d1_33 : decode method_2_code 33 = .ok (.iconst 5, 1) := by decide +kernel
theorem d1_34 : decode method_2_code 34 = .ok (.laload, 1) := by decide +kernel
theorem d1_35 : decode method_2_code 35 = .ok (.aload_n 0, 1) := by decide +kernel
theorem d1_36 : decode method_2_code 36 = .ok (.bipush 6, 2) := by decide +kernel
theorem d1_38 : decode method_2_code 38 = .ok (.laload, 1) := by decide +kernel
theorem d1_39 : decode method_2_code 39 = .ok (.aload_n 0, 1) := by decide +kernel
theorem d1_40 : decode method_2_code 40 = .ok (.bipush 7, 2) := by decide +kernel
theorem d1_42 : decode method_2_code 42 = .ok (.laload, 1) := by decide +kernel
theorem ef2 (m : MethodId) (x0 : Addr) (x1 : Int32) (x2 : Int32) (x3 : Int64) (x4 : Int32) (x5 : Int32) (x6 : Int64) (x7 : Int64) (x8 : Int64) : entryFrame m #[(.ref x0), (.int x1), (.int x2), (.long x3), (.int x4), (.int x5), (.long x6), (.long x7), (.long x8)] 13 = mkF m 0 #[.val (.ref x0), .val (.int x1), .val (.int x2), .val (.long x3), .second, .val (.int x4), .val (.int x5), .val (.long x6), .second, .val (.long x7), .second, .val (.long x8), .second] [] := by first | (simp [entryFrame, mkF, argsToLocals, Value.category]; done) | rfl
theorem pn1 : plainName "com/example/vacant_throne/vacantthrone/core/Heartbeat" = true := by first | (simp [plainName, overriddenIn]; done) | decide +kernel
theorem d2_0 : decode prog_8_method_1_code 0 = .ok (.aload_n 0, 1) := by decide +kernel
theorem d2_1 : decode prog_8_method_1_code 1 = .ok (.invokespecial 1, 3) := by decide +kernel
theorem d2_4 : decode prog_8_method_1_code 4 = .ok (.aload_n 0, 1) := by decide +kernel
theorem d2_5 : decode prog_8_method_1_code 5 = .ok (.iload_n 1, 1) := by decide +kernel
theorem d2_6 : decode prog_8_method_1_code 6 = .ok (.putfield 7, 3) := by decide +kernel
theorem sn0 {Z : State} {a0 : Array Value} (hw : ∀ d ∈ tables_1, d.before a0 Z = true) : Jvm.RoadKit.slotOf Z "com/example/vacant_throne/vacantthrone/core/Heartbeat" "set" "I" ≠ Jvm.RoadKit.slotOf Z "com/example/vacant_throne/vacantthrone/core/Heartbeat" "reveal" "Z" := slot_ne (Or.inr (ww hw 35 rfl)) (Or.inr (ww hw 20 rfl)) (by decide) (t := .int) (t' := .boolean) (by decide) (by decide)
theorem sn1 {Z : State} {a0 : Array Value} (hw : ∀ d ∈ tables_1, d.before a0 Z = true) : Jvm.RoadKit.slotOf Z "com/example/vacant_throne/vacantthrone/core/Heartbeat" "sender" "J" ≠ Jvm.RoadKit.slotOf Z "com/example/vacant_throne/vacantthrone/core/Heartbeat" "reveal" "Z" := slot_ne (Or.inr (ww hw 39 rfl)) (Or.inr (ww hw 20 rfl)) (by decide) (t := .long) (t' := .boolean) (by decide) (by decide)
theorem sn2 {Z : State} {a0 : Array Value} (hw : ∀ d ∈ tables_1, d.before a0 Z = true) : Jvm.RoadKit.slotOf Z "com/example/vacant_throne/vacantthrone/core/Heartbeat" "priority" "I" ≠ Jvm.RoadKit.slotOf Z "com/example/vacant_throne/vacantthrone/core/Heartbeat" "reveal" "Z" := slot_ne (Or.inr (ww hw 42 rfl)) (Or.inr (ww hw 20 rfl)) (by decide) (t := .int) (t' := .boolean) (by decide) (by decide)
theorem sn3 {Z : State} {a0 : Array Value} (hw : ∀ d ∈ tables_1, d.before a0 Z = true) : Jvm.RoadKit.slotOf Z "com/example/vacant_throne/vacantthrone/core/Heartbeat" "periodMs" "I" ≠ Jvm.RoadKit.slotOf Z "com/example/vacant_throne/vacantthrone/core/Heartbeat" "reveal" "Z" := slot_ne (Or.inr (ww hw 45 rfl)) (Or.inr (ww hw 20 rfl)) (by decide) (t := .int) (t' := .boolean) (by decide) (by decide)
theorem sn4 {Z : State} {a0 : Array Value} (hw : ∀ d ∈ tables_1, d.before a0 Z = true) : Jvm.RoadKit.slotOf Z "com/example/vacant_throne/vacantthrone/core/Heartbeat" "handOverTarget" "J" ≠ Jvm.RoadKit.slotOf Z "com/example/vacant_throne/vacantthrone/core/Heartbeat" "reveal" "Z" := slot_ne (Or.inr (ww hw 48 rfl)) (Or.inr (ww hw 20 rfl)) (by decide) (t := .long) (t' := .boolean) (by decide) (by decide)
theorem sn5 {Z : State} {a0 : Array Value} (hw : ∀ d ∈ tables_1, d.before a0 Z = true) : Jvm.RoadKit.slotOf Z "com/example/vacant_throne/vacantthrone/core/Heartbeat" "incarnation" "J" ≠ Jvm.RoadKit.slotOf Z "com/example/vacant_throne/vacantthrone/core/Heartbeat" "reveal" "Z" := slot_ne (Or.inr (ww hw 50 rfl)) (Or.inr (ww hw 20 rfl)) (by decide) (t := .long) (t' := .boolean) (by decide) (by decide)
theorem sn6 {Z : State} {a0 : Array Value} (hw : ∀ d ∈ tables_1, d.before a0 Z = true) : Jvm.RoadKit.slotOf Z "com/example/vacant_throne/vacantthrone/core/Heartbeat" "sequence" "J" ≠ Jvm.RoadKit.slotOf Z "com/example/vacant_throne/vacantthrone/core/Heartbeat" "reveal" "Z" := slot_ne (Or.inr (ww hw 53 rfl)) (Or.inr (ww hw 20 rfl)) (by decide) (t := .long) (t' := .boolean) (by decide) (by decide)
theorem d2_9 : decode prog_8_method_1_code 9 = .ok (.aload_n 0, 1) := by decide +kernel
theorem d2_10 : decode prog_8_method_1_code 10 = .ok (.ldc 13, 2) := by decide +kernel
theorem d2_12 : decode prog_8_method_1_code 12 = .ok (.iload_n 2, 1) := by decide +kernel
theorem d2_13 : decode prog_8_method_1_code 13 = .ok (.i2l, 1) := by decide +kernel
theorem d2_14 : decode prog_8_method_1_code 14 = .ok (.lconst 0, 1) := by decide +kernel
theorem d2_15 : decode prog_8_method_1_code 15 = .ok (.ldc2_w 17, 3) := by decide +kernel
theorem ef3 (m : MethodId) (x0 : Addr) (x1 : Int64) (x2 : Int64) (x3 : Int64) : entryFrame m #[(.ref x0), (.long x1), (.long x2), (.long x3)] 7 = mkF m 0 #[.val (.ref x0), .val (.long x1), .second, .val (.long x2), .second, .val (.long x3), .second] [] := by first | (simp [entryFrame, mkF, argsToLocals, Value.category]; done) | rfl
theorem pn2 : plainName "com/example/vacant_throne/vacantthrone/core/Ranges" = true := by first | (simp [plainName, overriddenIn]; done) | decide +kernel
theorem d4_0 : decode prog_14_method_2_code 0 = .ok (.lload_n 1, 1) := by decide +kernel
theorem d4_1 : decode prog_14_method_2_code 1 = .ok (.lload_n 3, 1) := by decide +kernel
theorem d4_2 : decode prog_14_method_2_code 2 = .ok (.lcmp, 1) := by decide +kernel
theorem d4_3 : decode prog_14_method_2_code 3 = .ok (.ifCond .lt 10, 3) := by decide +kernel
theorem d4_6 : decode prog_14_method_2_code 6 = .ok (.lload_n 1, 1) := by decide +kernel
theorem d4_7 : decode prog_14_method_2_code 7 = .ok (.lload 5, 2) := by decide +kernel
theorem d4_9 : decode prog_14_method_2_code 9 = .ok (.lcmp, 1) := by decide +kernel
theorem d4_10 : decode prog_14_method_2_code 10 = .ok (.ifCond .le 21, 3) := by decide +kernel
theorem d4_31 : decode prog_14_method_2_code 31 = .ok (.lload_n 1, 1) := by decide +kernel
theorem d4_32 : decode prog_14_method_2_code 32 = .ok (.lreturn, 1) := by decide +kernel
def Q4_2 (Z : State) (a_cache : Addr) (clC : Cell) (j0 : Int64) (b0 : Addr) (h0 : Heap) (n0 : Nat) (v : Option Value) (h : Heap) (L : List Loc) : Prop := Fr n0 L ∧ h = h0 ∧ ((v = some (.long j0)))
set_option maxRecDepth 65536 in
set_option maxHeartbeats 40000000 in
theorem rm4_2 (l : Launch) (Z : State) (a0 : Array Value) (hw : ∀ d ∈ tables_1, d.before a0 Z = true) (ws : List Jvm.Cond) (a_cache : Addr) (clC : Cell) (j0 : Int64) (b0 : Addr) (h0 : Heap) (n0 : Nat) (O0 : Old Z n0 h0) (HE : Env1 Z a_cache clC) (hp1 : ¬ (j0 < (0 : Int64))) (hp2 : ¬ ((65535 : Int64) < j0)) :
    MetFree l M0 (head1 (Jvm.Cond.code M0 prog_14_method_2_code 7 (some .long) :: ws) ({ frames := 0, cells := 0, slots := 0, locals := 0 } : Room)) (fun a U => a = #[(.ref b0), (.long j0), (.long (0 : Int64)), (.long (65535 : Int64))] ∧ Z.Warmed39 U.vm ∧ U.heap = h0) (fun _ _ _ _ _ => True) (fun _ U o U' => ∃ v L, o = .returned v ∧ Q4_2 Z a_cache clC j0 b0 h0 n0 v U'.heap L ∧ FrameEnd U o U' L ({ frames := 0, cells := 0, slots := 0, locals := 0 } : Room).cells ({ frames := 0, cells := 0, slots := 0, locals := 0 } : Room).slots) := by
 refine MetFree.of_bodySF (plainFor_of_name pn2) hisR ?_
 intro p e s m args below meth c s₁ Bd hml0 hP hK
 obtain ⟨rfl, hZ, hh⟩ := hP
 have hx := Bd.exec
 have hby := Bd.bytes
 have hml : c.maxLocals = 7 := hml0
 have hown : s.vm.findClass "com/example/vacant_throne/vacantthrone/core/Ranges" = some m.cls := findClass_of_methodNamed Bd.named
 have hnm := (name_of_methodNamed Bd.named Bd.method).1
 have X0 : Stand p l e ({ frames := 0, cells := 0, slots := 0, locals := 0 } : Room) s m #[(.ref b0), (.long j0), (.long (0 : Int64)), (.long (65535 : Int64))] below meth c s₁ [] 0 0 := Stand.of_body Bd
 have e0 : s₁.heap = h0 := by rw [← hh, Bd.state]; rfl
 have N0 := Fr.nil n0
 let S0 : State → Prop := fun t => Steps p.tables e below (s₁.setTop (entryFrame m #[(.ref b0), (.long j0), (.long (0 : Int64)), (.long (65535 : Int64))] 7)) t
 let Ls1 : Array Slot := #[.val (.ref b0), .val (.long j0), .second, .val (.long (0 : Int64)), .second, .val (.long (65535 : Int64)), .second]
 have p0 : ∀ t, St p e below s₁ (mkF m 0 Ls1 []) t → S0 t := fun t k => castTop (ef3 m b0 j0 (0 : Int64) (65535 : Int64)) k
 have HE' := HE
 obtain ⟨Scache, RC, ZC, TC⟩ := HE
 have p2 : ∀ t, St p e below s₁ (mkF m 3 Ls1 [(.int (lcmpW j0 (0 : Int64)))]) t → S0 t := fun t k => p0 t (by
   refine XS.lloadN X0.here hx rfl (hb hby d4_0) rfl ?_
   refine XS.lloadN X0.here hx rfl (hb hby d4_1) rfl ?_
   refine XS.lcmp X0.here hx rfl (hb hby d4_2) rfl ?_
   exact k)
 have p3 : ∀ t, St p e below s₁ (mkF m 10 Ls1 [(.int (lcmpW j0 (65535 : Int64)))]) t → S0 t := fun t k => p2 t (by
   refine XS.ifNo X0.here hx rfl (hb hby d4_3) rfl ((if0 _ _).trans (flt (mt (lw_lt _ _).mp hp1)).1) ?_
   refine XS.lloadN X0.here hx rfl (hb hby d4_6) rfl ?_
   refine XS.lload X0.here hx rfl (hb hby d4_7) rfl ?_
   refine XS.lcmp X0.here hx rfl (hb hby d4_9) rfl ?_
   exact k)
 have p4 : ∀ t, St p e below s₁ (mkF m 32 Ls1 [(.long j0)]) t → S0 t := fun t k => p3 t (by
   refine XS.ifYes X0.here hx rfl (pc0 := 10) (pc' := 31) rfl (hb hby d4_10) rfl ((if0 _ _).trans (flt (mt (lw_gt _ _).mp hp2)).2.2.2) (by decide) (by decide) ?_
   refine XS.lloadN X0.here hx rfl (hb hby d4_31) rfl ?_
   exact k)
 obtain ⟨fs, hr, hrun, hended, hW, hsame⟩ := X0.leave (v := some (.long j0)) (fun h => by rw [Bd.returns] at h; cases h)
 refine ⟨_, _, p4 _ ?_, hrun, hended, _, _, rfl, ?_, ⟨_, rfl⟩, hW, hsame.mono (by decide) (by decide)⟩
 · exact retOut X0 hx Bd.returns rfl (Or.inr (Or.inl ⟨rfl, rfl, _, rfl⟩)) (hb hby d4_32) hr
 · show Q4_2 Z a_cache clC j0 b0 h0 n0 _ s₁.heap _
   exact ⟨N0, e0, rfl⟩
theorem pd0 : parseMethodDescriptor "(Ljava/lang/String;JJJ)J" = some ⟨[(.object "java/lang/String"), .long, .long, .long], some .long⟩ := by decide +kernel
theorem d2_18 : decode prog_8_method_1_code 18 = .ok (.invokestatic 19, 3) := by decide +kernel
theorem d2_21 : decode prog_8_method_1_code 21 = .ok (.l2i, 1) := by decide +kernel
theorem d2_22 : decode prog_8_method_1_code 22 = .ok (.putfield 23, 3) := by decide +kernel
theorem sn7 {Z : State} {a0 : Array Value} (hw : ∀ d ∈ tables_1, d.before a0 Z = true) : Jvm.RoadKit.slotOf Z "com/example/vacant_throne/vacantthrone/core/Heartbeat" "reveal" "Z" ≠ Jvm.RoadKit.slotOf Z "com/example/vacant_throne/vacantthrone/core/Heartbeat" "set" "I" := slot_ne (Or.inr (ww hw 20 rfl)) (Or.inr (ww hw 35 rfl)) (by decide) (t := .boolean) (t' := .int) (by decide) (by decide)
theorem sn8 {Z : State} {a0 : Array Value} (hw : ∀ d ∈ tables_1, d.before a0 Z = true) : Jvm.RoadKit.slotOf Z "com/example/vacant_throne/vacantthrone/core/Heartbeat" "sender" "J" ≠ Jvm.RoadKit.slotOf Z "com/example/vacant_throne/vacantthrone/core/Heartbeat" "set" "I" := slot_ne (Or.inr (ww hw 39 rfl)) (Or.inr (ww hw 35 rfl)) (by decide) (t := .long) (t' := .int) (by decide) (by decide)
theorem sn9 {Z : State} {a0 : Array Value} (hw : ∀ d ∈ tables_1, d.before a0 Z = true) : Jvm.RoadKit.slotOf Z "com/example/vacant_throne/vacantthrone/core/Heartbeat" "priority" "I" ≠ Jvm.RoadKit.slotOf Z "com/example/vacant_throne/vacantthrone/core/Heartbeat" "set" "I" := slot_ne (Or.inr (ww hw 42 rfl)) (Or.inr (ww hw 35 rfl)) (by decide) (t := .int) (t' := .int) (by decide) (by decide)
theorem sn10 {Z : State} {a0 : Array Value} (hw : ∀ d ∈ tables_1, d.before a0 Z = true) : Jvm.RoadKit.slotOf Z "com/example/vacant_throne/vacantthrone/core/Heartbeat" "periodMs" "I" ≠ Jvm.RoadKit.slotOf Z "com/example/vacant_throne/vacantthrone/core/Heartbeat" "set" "I" := slot_ne (Or.inr (ww hw 45 rfl)) (Or.inr (ww hw 35 rfl)) (by decide) (t := .int) (t' := .int) (by decide) (by decide)
theorem sn11 {Z : State} {a0 : Array Value} (hw : ∀ d ∈ tables_1, d.before a0 Z = true) : Jvm.RoadKit.slotOf Z "com/example/vacant_throne/vacantthrone/core/Heartbeat" "handOverTarget" "J" ≠ Jvm.RoadKit.slotOf Z "com/example/vacant_throne/vacantthrone/core/Heartbeat" "set" "I" := slot_ne (Or.inr (ww hw 48 rfl)) (Or.inr (ww hw 35 rfl)) (by decide) (t := .long) (t' := .int) (by decide) (by decide)
theorem sn12 {Z : State} {a0 : Array Value} (hw : ∀ d ∈ tables_1, d.before a0 Z = true) : Jvm.RoadKit.slotOf Z "com/example/vacant_throne/vacantthrone/core/Heartbeat" "incarnation" "J" ≠ Jvm.RoadKit.slotOf Z "com/example/vacant_throne/vacantthrone/core/Heartbeat" "set" "I" := slot_ne (Or.inr (ww hw 50 rfl)) (Or.inr (ww hw 35 rfl)) (by decide) (t := .long) (t' := .int) (by decide) (by decide)
theorem sn13 {Z : State} {a0 : Array Value} (hw : ∀ d ∈ tables_1, d.before a0 Z = true) : Jvm.RoadKit.slotOf Z "com/example/vacant_throne/vacantthrone/core/Heartbeat" "sequence" "J" ≠ Jvm.RoadKit.slotOf Z "com/example/vacant_throne/vacantthrone/core/Heartbeat" "set" "I" := slot_ne (Or.inr (ww hw 53 rfl)) (Or.inr (ww hw 35 rfl)) (by decide) (t := .long) (t' := .int) (by decide) (by decide)
theorem d2_25 : decode prog_8_method_1_code 25 = .ok (.aload_n 0, 1) := by decide +kernel
theorem d2_26 : decode prog_8_method_1_code 26 = .ok (.ldc 26, 2) := by decide +kernel
theorem d2_28 : decode prog_8_method_1_code 28 = .ok (.lload_n 3, 1) := by decide +kernel
theorem d2_29 : decode prog_8_method_1_code 29 = .ok (.lconst 1, 1) := by decide +kernel
theorem d2_30 : decode prog_8_method_1_code 30 = .ok (.ldc2_w 28, 3) := by decide +kernel
def Q4_3 (Z : State) (a_cache : Addr) (clC : Cell) (j0 : Int64) (b0 : Addr) (h0 : Heap) (n0 : Nat) (v : Option Value) (h : Heap) (L : List Loc) : Prop := Fr n0 L ∧ h = h0 ∧ ((v = some (.long j0)))
set_option maxRecDepth 65536 in
set_option maxHeartbeats 40000000 in
theorem rm4_3 (l : Launch) (Z : State) (a0 : Array Value) (hw : ∀ d ∈ tables_1, d.before a0 Z = true) (ws : List Jvm.Cond) (a_cache : Addr) (clC : Cell) (j0 : Int64) (b0 : Addr) (h0 : Heap) (n0 : Nat) (O0 : Old Z n0 h0) (HE : Env1 Z a_cache clC) (hp1 : ¬ (j0 < (1 : Int64))) (hp2 : ¬ ((4294967295 : Int64) < j0)) :
    MetFree l M0 (head1 (Jvm.Cond.code M0 prog_14_method_2_code 7 (some .long) :: ws) ({ frames := 0, cells := 0, slots := 0, locals := 0 } : Room)) (fun a U => a = #[(.ref b0), (.long j0), (.long (1 : Int64)), (.long (4294967295 : Int64))] ∧ Z.Warmed39 U.vm ∧ U.heap = h0) (fun _ _ _ _ _ => True) (fun _ U o U' => ∃ v L, o = .returned v ∧ Q4_3 Z a_cache clC j0 b0 h0 n0 v U'.heap L ∧ FrameEnd U o U' L ({ frames := 0, cells := 0, slots := 0, locals := 0 } : Room).cells ({ frames := 0, cells := 0, slots := 0, locals := 0 } : Room).slots) := by
 refine MetFree.of_bodySF (plainFor_of_name pn2) hisR ?_
 intro p e s m args below meth c s₁ Bd hml0 hP hK
 obtain ⟨rfl, hZ, hh⟩ := hP
 have hx := Bd.exec
 have hby := Bd.bytes
 have hml : c.maxLocals = 7 := hml0
 have hown : s.vm.findClass "com/example/vacant_throne/vacantthrone/core/Ranges" = some m.cls := findClass_of_methodNamed Bd.named
 have hnm := (name_of_methodNamed Bd.named Bd.method).1
 have X0 : Stand p l e ({ frames := 0, cells := 0, slots := 0, locals := 0 } : Room) s m #[(.ref b0), (.long j0), (.long (1 : Int64)), (.long (4294967295 : Int64))] below meth c s₁ [] 0 0 := Stand.of_body Bd
 have e0 : s₁.heap = h0 := by rw [← hh, Bd.state]; rfl
 have N0 := Fr.nil n0
 let S0 : State → Prop := fun t => Steps p.tables e below (s₁.setTop (entryFrame m #[(.ref b0), (.long j0), (.long (1 : Int64)), (.long (4294967295 : Int64))] 7)) t
 let Ls1 : Array Slot := #[.val (.ref b0), .val (.long j0), .second, .val (.long (1 : Int64)), .second, .val (.long (4294967295 : Int64)), .second]
 have p0 : ∀ t, St p e below s₁ (mkF m 0 Ls1 []) t → S0 t := fun t k => castTop (ef3 m b0 j0 (1 : Int64) (4294967295 : Int64)) k
 have HE' := HE
 obtain ⟨Scache, RC, ZC, TC⟩ := HE
 have p2 : ∀ t, St p e below s₁ (mkF m 3 Ls1 [(.int (lcmpW j0 (1 : Int64)))]) t → S0 t := fun t k => p0 t (by
   refine XS.lloadN X0.here hx rfl (hb hby d4_0) rfl ?_
   refine XS.lloadN X0.here hx rfl (hb hby d4_1) rfl ?_
   refine XS.lcmp X0.here hx rfl (hb hby d4_2) rfl ?_
   exact k)
 have p3 : ∀ t, St p e below s₁ (mkF m 10 Ls1 [(.int (lcmpW j0 (4294967295 : Int64)))]) t → S0 t := fun t k => p2 t (by
   refine XS.ifNo X0.here hx rfl (hb hby d4_3) rfl ((if0 _ _).trans (flt (mt (lw_lt _ _).mp hp1)).1) ?_
   refine XS.lloadN X0.here hx rfl (hb hby d4_6) rfl ?_
   refine XS.lload X0.here hx rfl (hb hby d4_7) rfl ?_
   refine XS.lcmp X0.here hx rfl (hb hby d4_9) rfl ?_
   exact k)
 have p4 : ∀ t, St p e below s₁ (mkF m 32 Ls1 [(.long j0)]) t → S0 t := fun t k => p3 t (by
   refine XS.ifYes X0.here hx rfl (pc0 := 10) (pc' := 31) rfl (hb hby d4_10) rfl ((if0 _ _).trans (flt (mt (lw_gt _ _).mp hp2)).2.2.2) (by decide) (by decide) ?_
   refine XS.lloadN X0.here hx rfl (hb hby d4_31) rfl ?_
   exact k)
 obtain ⟨fs, hr, hrun, hended, hW, hsame⟩ := X0.leave (v := some (.long j0)) (fun h => by rw [Bd.returns] at h; cases h)
 refine ⟨_, _, p4 _ ?_, hrun, hended, _, _, rfl, ?_, ⟨_, rfl⟩, hW, hsame.mono (by decide) (by decide)⟩
 · exact retOut X0 hx Bd.returns rfl (Or.inr (Or.inl ⟨rfl, rfl, _, rfl⟩)) (hb hby d4_32) hr
 · show Q4_3 Z a_cache clC j0 b0 h0 n0 _ s₁.heap _
   exact ⟨N0, e0, rfl⟩
theorem d2_33 : decode prog_8_method_1_code 33 = .ok (.invokestatic 19, 3) := by decide +kernel
theorem d2_36 : decode prog_8_method_1_code 36 = .ok (.putfield 30, 3) := by decide +kernel
theorem sn14 {Z : State} {a0 : Array Value} (hw : ∀ d ∈ tables_1, d.before a0 Z = true) : Jvm.RoadKit.slotOf Z "com/example/vacant_throne/vacantthrone/core/Heartbeat" "reveal" "Z" ≠ Jvm.RoadKit.slotOf Z "com/example/vacant_throne/vacantthrone/core/Heartbeat" "sender" "J" := slot_ne (Or.inr (ww hw 20 rfl)) (Or.inr (ww hw 39 rfl)) (by decide) (t := .boolean) (t' := .long) (by decide) (by decide)
theorem sn15 {Z : State} {a0 : Array Value} (hw : ∀ d ∈ tables_1, d.before a0 Z = true) : Jvm.RoadKit.slotOf Z "com/example/vacant_throne/vacantthrone/core/Heartbeat" "set" "I" ≠ Jvm.RoadKit.slotOf Z "com/example/vacant_throne/vacantthrone/core/Heartbeat" "sender" "J" := slot_ne (Or.inr (ww hw 35 rfl)) (Or.inr (ww hw 39 rfl)) (by decide) (t := .int) (t' := .long) (by decide) (by decide)
theorem sn16 {Z : State} {a0 : Array Value} (hw : ∀ d ∈ tables_1, d.before a0 Z = true) : Jvm.RoadKit.slotOf Z "com/example/vacant_throne/vacantthrone/core/Heartbeat" "priority" "I" ≠ Jvm.RoadKit.slotOf Z "com/example/vacant_throne/vacantthrone/core/Heartbeat" "sender" "J" := slot_ne (Or.inr (ww hw 42 rfl)) (Or.inr (ww hw 39 rfl)) (by decide) (t := .int) (t' := .long) (by decide) (by decide)
theorem sn17 {Z : State} {a0 : Array Value} (hw : ∀ d ∈ tables_1, d.before a0 Z = true) : Jvm.RoadKit.slotOf Z "com/example/vacant_throne/vacantthrone/core/Heartbeat" "periodMs" "I" ≠ Jvm.RoadKit.slotOf Z "com/example/vacant_throne/vacantthrone/core/Heartbeat" "sender" "J" := slot_ne (Or.inr (ww hw 45 rfl)) (Or.inr (ww hw 39 rfl)) (by decide) (t := .int) (t' := .long) (by decide) (by decide)
theorem sn18 {Z : State} {a0 : Array Value} (hw : ∀ d ∈ tables_1, d.before a0 Z = true) : Jvm.RoadKit.slotOf Z "com/example/vacant_throne/vacantthrone/core/Heartbeat" "handOverTarget" "J" ≠ Jvm.RoadKit.slotOf Z "com/example/vacant_throne/vacantthrone/core/Heartbeat" "sender" "J" := slot_ne (Or.inr (ww hw 48 rfl)) (Or.inr (ww hw 39 rfl)) (by decide) (t := .long) (t' := .long) (by decide) (by decide)
theorem sn19 {Z : State} {a0 : Array Value} (hw : ∀ d ∈ tables_1, d.before a0 Z = true) : Jvm.RoadKit.slotOf Z "com/example/vacant_throne/vacantthrone/core/Heartbeat" "incarnation" "J" ≠ Jvm.RoadKit.slotOf Z "com/example/vacant_throne/vacantthrone/core/Heartbeat" "sender" "J" := slot_ne (Or.inr (ww hw 50 rfl)) (Or.inr (ww hw 39 rfl)) (by decide) (t := .long) (t' := .long) (by decide) (by decide)
theorem sn20 {Z : State} {a0 : Array Value} (hw : ∀ d ∈ tables_1, d.before a0 Z = true) : Jvm.RoadKit.slotOf Z "com/example/vacant_throne/vacantthrone/core/Heartbeat" "sequence" "J" ≠ Jvm.RoadKit.slotOf Z "com/example/vacant_throne/vacantthrone/core/Heartbeat" "sender" "J" := slot_ne (Or.inr (ww hw 53 rfl)) (Or.inr (ww hw 39 rfl)) (by decide) (t := .long) (t' := .long) (by decide) (by decide)
theorem d2_39 : decode prog_8_method_1_code 39 = .ok (.aload_n 0, 1) := by decide +kernel
theorem d2_40 : decode prog_8_method_1_code 40 = .ok (.ldc 33, 2) := by decide +kernel
theorem d2_42 : decode prog_8_method_1_code 42 = .ok (.iload 5, 2) := by decide +kernel
theorem d2_44 : decode prog_8_method_1_code 44 = .ok (.i2l, 1) := by decide +kernel
theorem d2_45 : decode prog_8_method_1_code 45 = .ok (.lconst 0, 1) := by decide +kernel
theorem d2_46 : decode prog_8_method_1_code 46 = .ok (.ldc2_w 17, 3) := by decide +kernel
theorem d2_49 : decode prog_8_method_1_code 49 = .ok (.invokestatic 19, 3) := by decide +kernel
theorem d2_52 : decode prog_8_method_1_code 52 = .ok (.l2i, 1) := by decide +kernel
theorem d2_53 : decode prog_8_method_1_code 53 = .ok (.putfield 35, 3) := by decide +kernel
theorem sn21 {Z : State} {a0 : Array Value} (hw : ∀ d ∈ tables_1, d.before a0 Z = true) : Jvm.RoadKit.slotOf Z "com/example/vacant_throne/vacantthrone/core/Heartbeat" "reveal" "Z" ≠ Jvm.RoadKit.slotOf Z "com/example/vacant_throne/vacantthrone/core/Heartbeat" "priority" "I" := slot_ne (Or.inr (ww hw 20 rfl)) (Or.inr (ww hw 42 rfl)) (by decide) (t := .boolean) (t' := .int) (by decide) (by decide)
theorem sn22 {Z : State} {a0 : Array Value} (hw : ∀ d ∈ tables_1, d.before a0 Z = true) : Jvm.RoadKit.slotOf Z "com/example/vacant_throne/vacantthrone/core/Heartbeat" "set" "I" ≠ Jvm.RoadKit.slotOf Z "com/example/vacant_throne/vacantthrone/core/Heartbeat" "priority" "I" := slot_ne (Or.inr (ww hw 35 rfl)) (Or.inr (ww hw 42 rfl)) (by decide) (t := .int) (t' := .int) (by decide) (by decide)
theorem sn23 {Z : State} {a0 : Array Value} (hw : ∀ d ∈ tables_1, d.before a0 Z = true) : Jvm.RoadKit.slotOf Z "com/example/vacant_throne/vacantthrone/core/Heartbeat" "sender" "J" ≠ Jvm.RoadKit.slotOf Z "com/example/vacant_throne/vacantthrone/core/Heartbeat" "priority" "I" := slot_ne (Or.inr (ww hw 39 rfl)) (Or.inr (ww hw 42 rfl)) (by decide) (t := .long) (t' := .int) (by decide) (by decide)
theorem sn24 {Z : State} {a0 : Array Value} (hw : ∀ d ∈ tables_1, d.before a0 Z = true) : Jvm.RoadKit.slotOf Z "com/example/vacant_throne/vacantthrone/core/Heartbeat" "periodMs" "I" ≠ Jvm.RoadKit.slotOf Z "com/example/vacant_throne/vacantthrone/core/Heartbeat" "priority" "I" := slot_ne (Or.inr (ww hw 45 rfl)) (Or.inr (ww hw 42 rfl)) (by decide) (t := .int) (t' := .int) (by decide) (by decide)
theorem sn25 {Z : State} {a0 : Array Value} (hw : ∀ d ∈ tables_1, d.before a0 Z = true) : Jvm.RoadKit.slotOf Z "com/example/vacant_throne/vacantthrone/core/Heartbeat" "handOverTarget" "J" ≠ Jvm.RoadKit.slotOf Z "com/example/vacant_throne/vacantthrone/core/Heartbeat" "priority" "I" := slot_ne (Or.inr (ww hw 48 rfl)) (Or.inr (ww hw 42 rfl)) (by decide) (t := .long) (t' := .int) (by decide) (by decide)
theorem sn26 {Z : State} {a0 : Array Value} (hw : ∀ d ∈ tables_1, d.before a0 Z = true) : Jvm.RoadKit.slotOf Z "com/example/vacant_throne/vacantthrone/core/Heartbeat" "incarnation" "J" ≠ Jvm.RoadKit.slotOf Z "com/example/vacant_throne/vacantthrone/core/Heartbeat" "priority" "I" := slot_ne (Or.inr (ww hw 50 rfl)) (Or.inr (ww hw 42 rfl)) (by decide) (t := .long) (t' := .int) (by decide) (by decide)
theorem sn27 {Z : State} {a0 : Array Value} (hw : ∀ d ∈ tables_1, d.before a0 Z = true) : Jvm.RoadKit.slotOf Z "com/example/vacant_throne/vacantthrone/core/Heartbeat" "sequence" "J" ≠ Jvm.RoadKit.slotOf Z "com/example/vacant_throne/vacantthrone/core/Heartbeat" "priority" "I" := slot_ne (Or.inr (ww hw 53 rfl)) (Or.inr (ww hw 42 rfl)) (by decide) (t := .long) (t' := .int) (by decide) (by decide)
theorem d2_56 : decode prog_8_method_1_code 56 = .ok (.aload_n 0, 1) := by decide +kernel
theorem d2_57 : decode prog_8_method_1_code 57 = .ok (.ldc 37, 2) := by decide +kernel
theorem d2_59 : decode prog_8_method_1_code 59 = .ok (.iload 6, 2) := by decide +kernel
theorem d2_61 : decode prog_8_method_1_code 61 = .ok (.i2l, 1) := by decide +kernel
theorem d2_62 : decode prog_8_method_1_code 62 = .ok (.lconst 0, 1) := by decide +kernel
theorem d2_63 : decode prog_8_method_1_code 63 = .ok (.ldc2_w 17, 3) := by decide +kernel
theorem d2_66 : decode prog_8_method_1_code 66 = .ok (.invokestatic 19, 3) := by decide +kernel
theorem d2_69 : decode prog_8_method_1_code 69 = .ok (.l2i, 1) := by decide +kernel
theorem d2_70 : decode prog_8_method_1_code 70 = .ok (.putfield 39, 3) := by decide +kernel
theorem sn28 {Z : State} {a0 : Array Value} (hw : ∀ d ∈ tables_1, d.before a0 Z = true) : Jvm.RoadKit.slotOf Z "com/example/vacant_throne/vacantthrone/core/Heartbeat" "reveal" "Z" ≠ Jvm.RoadKit.slotOf Z "com/example/vacant_throne/vacantthrone/core/Heartbeat" "periodMs" "I" := slot_ne (Or.inr (ww hw 20 rfl)) (Or.inr (ww hw 45 rfl)) (by decide) (t := .boolean) (t' := .int) (by decide) (by decide)
theorem sn29 {Z : State} {a0 : Array Value} (hw : ∀ d ∈ tables_1, d.before a0 Z = true) : Jvm.RoadKit.slotOf Z "com/example/vacant_throne/vacantthrone/core/Heartbeat" "set" "I" ≠ Jvm.RoadKit.slotOf Z "com/example/vacant_throne/vacantthrone/core/Heartbeat" "periodMs" "I" := slot_ne (Or.inr (ww hw 35 rfl)) (Or.inr (ww hw 45 rfl)) (by decide) (t := .int) (t' := .int) (by decide) (by decide)
theorem sn30 {Z : State} {a0 : Array Value} (hw : ∀ d ∈ tables_1, d.before a0 Z = true) : Jvm.RoadKit.slotOf Z "com/example/vacant_throne/vacantthrone/core/Heartbeat" "sender" "J" ≠ Jvm.RoadKit.slotOf Z "com/example/vacant_throne/vacantthrone/core/Heartbeat" "periodMs" "I" := slot_ne (Or.inr (ww hw 39 rfl)) (Or.inr (ww hw 45 rfl)) (by decide) (t := .long) (t' := .int) (by decide) (by decide)
theorem sn31 {Z : State} {a0 : Array Value} (hw : ∀ d ∈ tables_1, d.before a0 Z = true) : Jvm.RoadKit.slotOf Z "com/example/vacant_throne/vacantthrone/core/Heartbeat" "priority" "I" ≠ Jvm.RoadKit.slotOf Z "com/example/vacant_throne/vacantthrone/core/Heartbeat" "periodMs" "I" := slot_ne (Or.inr (ww hw 42 rfl)) (Or.inr (ww hw 45 rfl)) (by decide) (t := .int) (t' := .int) (by decide) (by decide)
theorem sn32 {Z : State} {a0 : Array Value} (hw : ∀ d ∈ tables_1, d.before a0 Z = true) : Jvm.RoadKit.slotOf Z "com/example/vacant_throne/vacantthrone/core/Heartbeat" "handOverTarget" "J" ≠ Jvm.RoadKit.slotOf Z "com/example/vacant_throne/vacantthrone/core/Heartbeat" "periodMs" "I" := slot_ne (Or.inr (ww hw 48 rfl)) (Or.inr (ww hw 45 rfl)) (by decide) (t := .long) (t' := .int) (by decide) (by decide)
theorem sn33 {Z : State} {a0 : Array Value} (hw : ∀ d ∈ tables_1, d.before a0 Z = true) : Jvm.RoadKit.slotOf Z "com/example/vacant_throne/vacantthrone/core/Heartbeat" "incarnation" "J" ≠ Jvm.RoadKit.slotOf Z "com/example/vacant_throne/vacantthrone/core/Heartbeat" "periodMs" "I" := slot_ne (Or.inr (ww hw 50 rfl)) (Or.inr (ww hw 45 rfl)) (by decide) (t := .long) (t' := .int) (by decide) (by decide)
theorem sn34 {Z : State} {a0 : Array Value} (hw : ∀ d ∈ tables_1, d.before a0 Z = true) : Jvm.RoadKit.slotOf Z "com/example/vacant_throne/vacantthrone/core/Heartbeat" "sequence" "J" ≠ Jvm.RoadKit.slotOf Z "com/example/vacant_throne/vacantthrone/core/Heartbeat" "periodMs" "I" := slot_ne (Or.inr (ww hw 53 rfl)) (Or.inr (ww hw 45 rfl)) (by decide) (t := .long) (t' := .int) (by decide) (by decide)
theorem d2_73 : decode prog_8_method_1_code 73 = .ok (.aload_n 0, 1) := by decide +kernel
theorem d2_74 : decode prog_8_method_1_code 74 = .ok (.ldc 41, 2) := by decide +kernel
theorem d2_76 : decode prog_8_method_1_code 76 = .ok (.lload 7, 2) := by decide +kernel
theorem d2_78 : decode prog_8_method_1_code 78 = .ok (.lconst 0, 1) := by decide +kernel
theorem d2_79 : decode prog_8_method_1_code 79 = .ok (.ldc2_w 28, 3) := by decide +kernel
def Q4_4 (Z : State) (a_cache : Addr) (clC : Cell) (j0 : Int64) (b0 : Addr) (h0 : Heap) (n0 : Nat) (v : Option Value) (h : Heap) (L : List Loc) : Prop := Fr n0 L ∧ h = h0 ∧ ((v = some (.long j0)))
set_option maxRecDepth 65536 in
set_option maxHeartbeats 40000000 in
theorem rm4_4 (l : Launch) (Z : State) (a0 : Array Value) (hw : ∀ d ∈ tables_1, d.before a0 Z = true) (ws : List Jvm.Cond) (a_cache : Addr) (clC : Cell) (j0 : Int64) (b0 : Addr) (h0 : Heap) (n0 : Nat) (O0 : Old Z n0 h0) (HE : Env1 Z a_cache clC) (hp1 : ¬ (j0 < (0 : Int64))) (hp2 : ¬ ((4294967295 : Int64) < j0)) :
    MetFree l M0 (head1 (Jvm.Cond.code M0 prog_14_method_2_code 7 (some .long) :: ws) ({ frames := 0, cells := 0, slots := 0, locals := 0 } : Room)) (fun a U => a = #[(.ref b0), (.long j0), (.long (0 : Int64)), (.long (4294967295 : Int64))] ∧ Z.Warmed39 U.vm ∧ U.heap = h0) (fun _ _ _ _ _ => True) (fun _ U o U' => ∃ v L, o = .returned v ∧ Q4_4 Z a_cache clC j0 b0 h0 n0 v U'.heap L ∧ FrameEnd U o U' L ({ frames := 0, cells := 0, slots := 0, locals := 0 } : Room).cells ({ frames := 0, cells := 0, slots := 0, locals := 0 } : Room).slots) := by
 refine MetFree.of_bodySF (plainFor_of_name pn2) hisR ?_
 intro p e s m args below meth c s₁ Bd hml0 hP hK
 obtain ⟨rfl, hZ, hh⟩ := hP
 have hx := Bd.exec
 have hby := Bd.bytes
 have hml : c.maxLocals = 7 := hml0
 have hown : s.vm.findClass "com/example/vacant_throne/vacantthrone/core/Ranges" = some m.cls := findClass_of_methodNamed Bd.named
 have hnm := (name_of_methodNamed Bd.named Bd.method).1
 have X0 : Stand p l e ({ frames := 0, cells := 0, slots := 0, locals := 0 } : Room) s m #[(.ref b0), (.long j0), (.long (0 : Int64)), (.long (4294967295 : Int64))] below meth c s₁ [] 0 0 := Stand.of_body Bd
 have e0 : s₁.heap = h0 := by rw [← hh, Bd.state]; rfl
 have N0 := Fr.nil n0
 let S0 : State → Prop := fun t => Steps p.tables e below (s₁.setTop (entryFrame m #[(.ref b0), (.long j0), (.long (0 : Int64)), (.long (4294967295 : Int64))] 7)) t
 let Ls1 : Array Slot := #[.val (.ref b0), .val (.long j0), .second, .val (.long (0 : Int64)), .second, .val (.long (4294967295 : Int64)), .second]
 have p0 : ∀ t, St p e below s₁ (mkF m 0 Ls1 []) t → S0 t := fun t k => castTop (ef3 m b0 j0 (0 : Int64) (4294967295 : Int64)) k
 have HE' := HE
 obtain ⟨Scache, RC, ZC, TC⟩ := HE
 have p2 : ∀ t, St p e below s₁ (mkF m 3 Ls1 [(.int (lcmpW j0 (0 : Int64)))]) t → S0 t := fun t k => p0 t (by
   refine XS.lloadN X0.here hx rfl (hb hby d4_0) rfl ?_
   refine XS.lloadN X0.here hx rfl (hb hby d4_1) rfl ?_
   refine XS.lcmp X0.here hx rfl (hb hby d4_2) rfl ?_
   exact k)
 have p3 : ∀ t, St p e below s₁ (mkF m 10 Ls1 [(.int (lcmpW j0 (4294967295 : Int64)))]) t → S0 t := fun t k => p2 t (by
   refine XS.ifNo X0.here hx rfl (hb hby d4_3) rfl ((if0 _ _).trans (flt (mt (lw_lt _ _).mp hp1)).1) ?_
   refine XS.lloadN X0.here hx rfl (hb hby d4_6) rfl ?_
   refine XS.lload X0.here hx rfl (hb hby d4_7) rfl ?_
   refine XS.lcmp X0.here hx rfl (hb hby d4_9) rfl ?_
   exact k)
 have p4 : ∀ t, St p e below s₁ (mkF m 32 Ls1 [(.long j0)]) t → S0 t := fun t k => p3 t (by
   refine XS.ifYes X0.here hx rfl (pc0 := 10) (pc' := 31) rfl (hb hby d4_10) rfl ((if0 _ _).trans (flt (mt (lw_gt _ _).mp hp2)).2.2.2) (by decide) (by decide) ?_
   refine XS.lloadN X0.here hx rfl (hb hby d4_31) rfl ?_
   exact k)
 obtain ⟨fs, hr, hrun, hended, hW, hsame⟩ := X0.leave (v := some (.long j0)) (fun h => by rw [Bd.returns] at h; cases h)
 refine ⟨_, _, p4 _ ?_, hrun, hended, _, _, rfl, ?_, ⟨_, rfl⟩, hW, hsame.mono (by decide) (by decide)⟩
 · exact retOut X0 hx Bd.returns rfl (Or.inr (Or.inl ⟨rfl, rfl, _, rfl⟩)) (hb hby d4_32) hr
 · show Q4_4 Z a_cache clC j0 b0 h0 n0 _ s₁.heap _
   exact ⟨N0, e0, rfl⟩
theorem d2_82 : decode prog_8_method_1_code 82 = .ok (.invokestatic 19, 3) := by decide +kernel
theorem d2_85 : decode prog_8_method_1_code 85 = .ok (.putfield 43, 3) := by decide +kernel
theorem sn35 {Z : State} {a0 : Array Value} (hw : ∀ d ∈ tables_1, d.before a0 Z = true) : Jvm.RoadKit.slotOf Z "com/example/vacant_throne/vacantthrone/core/Heartbeat" "reveal" "Z" ≠ Jvm.RoadKit.slotOf Z "com/example/vacant_throne/vacantthrone/core/Heartbeat" "handOverTarget" "J" := slot_ne (Or.inr (ww hw 20 rfl)) (Or.inr (ww hw 48 rfl)) (by decide) (t := .boolean) (t' := .long) (by decide) (by decide)
theorem sn36 {Z : State} {a0 : Array Value} (hw : ∀ d ∈ tables_1, d.before a0 Z = true) : Jvm.RoadKit.slotOf Z "com/example/vacant_throne/vacantthrone/core/Heartbeat" "set" "I" ≠ Jvm.RoadKit.slotOf Z "com/example/vacant_throne/vacantthrone/core/Heartbeat" "handOverTarget" "J" := slot_ne (Or.inr (ww hw 35 rfl)) (Or.inr (ww hw 48 rfl)) (by decide) (t := .int) (t' := .long) (by decide) (by decide)
theorem sn37 {Z : State} {a0 : Array Value} (hw : ∀ d ∈ tables_1, d.before a0 Z = true) : Jvm.RoadKit.slotOf Z "com/example/vacant_throne/vacantthrone/core/Heartbeat" "sender" "J" ≠ Jvm.RoadKit.slotOf Z "com/example/vacant_throne/vacantthrone/core/Heartbeat" "handOverTarget" "J" := slot_ne (Or.inr (ww hw 39 rfl)) (Or.inr (ww hw 48 rfl)) (by decide) (t := .long) (t' := .long) (by decide) (by decide)
theorem sn38 {Z : State} {a0 : Array Value} (hw : ∀ d ∈ tables_1, d.before a0 Z = true) : Jvm.RoadKit.slotOf Z "com/example/vacant_throne/vacantthrone/core/Heartbeat" "priority" "I" ≠ Jvm.RoadKit.slotOf Z "com/example/vacant_throne/vacantthrone/core/Heartbeat" "handOverTarget" "J" := slot_ne (Or.inr (ww hw 42 rfl)) (Or.inr (ww hw 48 rfl)) (by decide) (t := .int) (t' := .long) (by decide) (by decide)
theorem sn39 {Z : State} {a0 : Array Value} (hw : ∀ d ∈ tables_1, d.before a0 Z = true) : Jvm.RoadKit.slotOf Z "com/example/vacant_throne/vacantthrone/core/Heartbeat" "periodMs" "I" ≠ Jvm.RoadKit.slotOf Z "com/example/vacant_throne/vacantthrone/core/Heartbeat" "handOverTarget" "J" := slot_ne (Or.inr (ww hw 45 rfl)) (Or.inr (ww hw 48 rfl)) (by decide) (t := .int) (t' := .long) (by decide) (by decide)
theorem sn40 {Z : State} {a0 : Array Value} (hw : ∀ d ∈ tables_1, d.before a0 Z = true) : Jvm.RoadKit.slotOf Z "com/example/vacant_throne/vacantthrone/core/Heartbeat" "incarnation" "J" ≠ Jvm.RoadKit.slotOf Z "com/example/vacant_throne/vacantthrone/core/Heartbeat" "handOverTarget" "J" := slot_ne (Or.inr (ww hw 50 rfl)) (Or.inr (ww hw 48 rfl)) (by decide) (t := .long) (t' := .long) (by decide) (by decide)
theorem sn41 {Z : State} {a0 : Array Value} (hw : ∀ d ∈ tables_1, d.before a0 Z = true) : Jvm.RoadKit.slotOf Z "com/example/vacant_throne/vacantthrone/core/Heartbeat" "sequence" "J" ≠ Jvm.RoadKit.slotOf Z "com/example/vacant_throne/vacantthrone/core/Heartbeat" "handOverTarget" "J" := slot_ne (Or.inr (ww hw 53 rfl)) (Or.inr (ww hw 48 rfl)) (by decide) (t := .long) (t' := .long) (by decide) (by decide)
theorem d2_88 : decode prog_8_method_1_code 88 = .ok (.aload_n 0, 1) := by decide +kernel
theorem d2_89 : decode prog_8_method_1_code 89 = .ok (.lload 9, 2) := by decide +kernel
theorem d2_91 : decode prog_8_method_1_code 91 = .ok (.putfield 45, 3) := by decide +kernel
theorem sn42 {Z : State} {a0 : Array Value} (hw : ∀ d ∈ tables_1, d.before a0 Z = true) : Jvm.RoadKit.slotOf Z "com/example/vacant_throne/vacantthrone/core/Heartbeat" "reveal" "Z" ≠ Jvm.RoadKit.slotOf Z "com/example/vacant_throne/vacantthrone/core/Heartbeat" "incarnation" "J" := slot_ne (Or.inr (ww hw 20 rfl)) (Or.inr (ww hw 50 rfl)) (by decide) (t := .boolean) (t' := .long) (by decide) (by decide)
theorem sn43 {Z : State} {a0 : Array Value} (hw : ∀ d ∈ tables_1, d.before a0 Z = true) : Jvm.RoadKit.slotOf Z "com/example/vacant_throne/vacantthrone/core/Heartbeat" "set" "I" ≠ Jvm.RoadKit.slotOf Z "com/example/vacant_throne/vacantthrone/core/Heartbeat" "incarnation" "J" := slot_ne (Or.inr (ww hw 35 rfl)) (Or.inr (ww hw 50 rfl)) (by decide) (t := .int) (t' := .long) (by decide) (by decide)
theorem sn44 {Z : State} {a0 : Array Value} (hw : ∀ d ∈ tables_1, d.before a0 Z = true) : Jvm.RoadKit.slotOf Z "com/example/vacant_throne/vacantthrone/core/Heartbeat" "sender" "J" ≠ Jvm.RoadKit.slotOf Z "com/example/vacant_throne/vacantthrone/core/Heartbeat" "incarnation" "J" := slot_ne (Or.inr (ww hw 39 rfl)) (Or.inr (ww hw 50 rfl)) (by decide) (t := .long) (t' := .long) (by decide) (by decide)
theorem sn45 {Z : State} {a0 : Array Value} (hw : ∀ d ∈ tables_1, d.before a0 Z = true) : Jvm.RoadKit.slotOf Z "com/example/vacant_throne/vacantthrone/core/Heartbeat" "priority" "I" ≠ Jvm.RoadKit.slotOf Z "com/example/vacant_throne/vacantthrone/core/Heartbeat" "incarnation" "J" := slot_ne (Or.inr (ww hw 42 rfl)) (Or.inr (ww hw 50 rfl)) (by decide) (t := .int) (t' := .long) (by decide) (by decide)
theorem sn46 {Z : State} {a0 : Array Value} (hw : ∀ d ∈ tables_1, d.before a0 Z = true) : Jvm.RoadKit.slotOf Z "com/example/vacant_throne/vacantthrone/core/Heartbeat" "periodMs" "I" ≠ Jvm.RoadKit.slotOf Z "com/example/vacant_throne/vacantthrone/core/Heartbeat" "incarnation" "J" := slot_ne (Or.inr (ww hw 45 rfl)) (Or.inr (ww hw 50 rfl)) (by decide) (t := .int) (t' := .long) (by decide) (by decide)
theorem sn47 {Z : State} {a0 : Array Value} (hw : ∀ d ∈ tables_1, d.before a0 Z = true) : Jvm.RoadKit.slotOf Z "com/example/vacant_throne/vacantthrone/core/Heartbeat" "handOverTarget" "J" ≠ Jvm.RoadKit.slotOf Z "com/example/vacant_throne/vacantthrone/core/Heartbeat" "incarnation" "J" := slot_ne (Or.inr (ww hw 48 rfl)) (Or.inr (ww hw 50 rfl)) (by decide) (t := .long) (t' := .long) (by decide) (by decide)
theorem sn48 {Z : State} {a0 : Array Value} (hw : ∀ d ∈ tables_1, d.before a0 Z = true) : Jvm.RoadKit.slotOf Z "com/example/vacant_throne/vacantthrone/core/Heartbeat" "sequence" "J" ≠ Jvm.RoadKit.slotOf Z "com/example/vacant_throne/vacantthrone/core/Heartbeat" "incarnation" "J" := slot_ne (Or.inr (ww hw 53 rfl)) (Or.inr (ww hw 50 rfl)) (by decide) (t := .long) (t' := .long) (by decide) (by decide)
theorem d2_94 : decode prog_8_method_1_code 94 = .ok (.aload_n 0, 1) := by decide +kernel
theorem d2_95 : decode prog_8_method_1_code 95 = .ok (.ldc 48, 2) := by decide +kernel
theorem d2_97 : decode prog_8_method_1_code 97 = .ok (.lload 11, 2) := by decide +kernel
theorem d2_99 : decode prog_8_method_1_code 99 = .ok (.lconst 0, 1) := by decide +kernel
theorem d2_100 : decode prog_8_method_1_code 100 = .ok (.ldc2_w 28, 3) := by decide +kernel
theorem d2_103 : decode prog_8_method_1_code 103 = .ok (.invokestatic 19, 3) := by decide +kernel
theorem d2_106 : decode prog_8_method_1_code 106 = .ok (.putfield 50, 3) := by decide +kernel
theorem sn49 {Z : State} {a0 : Array Value} (hw : ∀ d ∈ tables_1, d.before a0 Z = true) : Jvm.RoadKit.slotOf Z "com/example/vacant_throne/vacantthrone/core/Heartbeat" "reveal" "Z" ≠ Jvm.RoadKit.slotOf Z "com/example/vacant_throne/vacantthrone/core/Heartbeat" "sequence" "J" := slot_ne (Or.inr (ww hw 20 rfl)) (Or.inr (ww hw 53 rfl)) (by decide) (t := .boolean) (t' := .long) (by decide) (by decide)
theorem sn50 {Z : State} {a0 : Array Value} (hw : ∀ d ∈ tables_1, d.before a0 Z = true) : Jvm.RoadKit.slotOf Z "com/example/vacant_throne/vacantthrone/core/Heartbeat" "set" "I" ≠ Jvm.RoadKit.slotOf Z "com/example/vacant_throne/vacantthrone/core/Heartbeat" "sequence" "J" := slot_ne (Or.inr (ww hw 35 rfl)) (Or.inr (ww hw 53 rfl)) (by decide) (t := .int) (t' := .long) (by decide) (by decide)
theorem sn51 {Z : State} {a0 : Array Value} (hw : ∀ d ∈ tables_1, d.before a0 Z = true) : Jvm.RoadKit.slotOf Z "com/example/vacant_throne/vacantthrone/core/Heartbeat" "sender" "J" ≠ Jvm.RoadKit.slotOf Z "com/example/vacant_throne/vacantthrone/core/Heartbeat" "sequence" "J" := slot_ne (Or.inr (ww hw 39 rfl)) (Or.inr (ww hw 53 rfl)) (by decide) (t := .long) (t' := .long) (by decide) (by decide)
theorem sn52 {Z : State} {a0 : Array Value} (hw : ∀ d ∈ tables_1, d.before a0 Z = true) : Jvm.RoadKit.slotOf Z "com/example/vacant_throne/vacantthrone/core/Heartbeat" "priority" "I" ≠ Jvm.RoadKit.slotOf Z "com/example/vacant_throne/vacantthrone/core/Heartbeat" "sequence" "J" := slot_ne (Or.inr (ww hw 42 rfl)) (Or.inr (ww hw 53 rfl)) (by decide) (t := .int) (t' := .long) (by decide) (by decide)
theorem sn53 {Z : State} {a0 : Array Value} (hw : ∀ d ∈ tables_1, d.before a0 Z = true) : Jvm.RoadKit.slotOf Z "com/example/vacant_throne/vacantthrone/core/Heartbeat" "periodMs" "I" ≠ Jvm.RoadKit.slotOf Z "com/example/vacant_throne/vacantthrone/core/Heartbeat" "sequence" "J" := slot_ne (Or.inr (ww hw 45 rfl)) (Or.inr (ww hw 53 rfl)) (by decide) (t := .int) (t' := .long) (by decide) (by decide)
theorem sn54 {Z : State} {a0 : Array Value} (hw : ∀ d ∈ tables_1, d.before a0 Z = true) : Jvm.RoadKit.slotOf Z "com/example/vacant_throne/vacantthrone/core/Heartbeat" "handOverTarget" "J" ≠ Jvm.RoadKit.slotOf Z "com/example/vacant_throne/vacantthrone/core/Heartbeat" "sequence" "J" := slot_ne (Or.inr (ww hw 48 rfl)) (Or.inr (ww hw 53 rfl)) (by decide) (t := .long) (t' := .long) (by decide) (by decide)
theorem sn55 {Z : State} {a0 : Array Value} (hw : ∀ d ∈ tables_1, d.before a0 Z = true) : Jvm.RoadKit.slotOf Z "com/example/vacant_throne/vacantthrone/core/Heartbeat" "incarnation" "J" ≠ Jvm.RoadKit.slotOf Z "com/example/vacant_throne/vacantthrone/core/Heartbeat" "sequence" "J" := slot_ne (Or.inr (ww hw 50 rfl)) (Or.inr (ww hw 53 rfl)) (by decide) (t := .long) (t' := .long) (by decide) (by decide)
theorem d2_109 : decode prog_8_method_1_code 109 = .ok (.return_, 1) := by decide +kernel
def Q2_1 (Z : State) (a_cache : Addr) (clC : Cell) (i0 : Int32) (i1 : Int32) (j2 : Int64) (i3 : Int32) (i4 : Int32) (j5 : Int64) (j6 : Int64) (j7 : Int64) (b0 : Addr) (h0 : Heap) (n0 : Nat) (v : Option Value) (h : Heap) (L : List Loc) : Prop := Fr n0 L ∧ ((v = none ∧ Keep h0 h [b0] ∧ Exa Z h b0 "com/example/vacant_throne/vacantthrone/core/Heartbeat" ∧ Fld Z h b0 "com/example/vacant_throne/vacantthrone/core/Heartbeat" "reveal" "Z" (.int (i0 &&& (1 : Int32))) ∧ Fld Z h b0 "com/example/vacant_throne/vacantthrone/core/Heartbeat" "set" "I" (.int ((i1.toInt64).toInt32)) ∧ Fld Z h b0 "com/example/vacant_throne/vacantthrone/core/Heartbeat" "sender" "J" (.long j2) ∧ Fld Z h b0 "com/example/vacant_throne/vacantthrone/core/Heartbeat" "priority" "I" (.int ((i3.toInt64).toInt32)) ∧ Fld Z h b0 "com/example/vacant_throne/vacantthrone/core/Heartbeat" "periodMs" "I" (.int ((i4.toInt64).toInt32)) ∧ Fld Z h b0 "com/example/vacant_throne/vacantthrone/core/Heartbeat" "handOverTarget" "J" (.long j5) ∧ Fld Z h b0 "com/example/vacant_throne/vacantthrone/core/Heartbeat" "incarnation" "J" (.long j6) ∧ Fld Z h b0 "com/example/vacant_throne/vacantthrone/core/Heartbeat" "sequence" "J" (.long j7)))
set_option maxRecDepth 65536 in
set_option maxHeartbeats 40000000 in
theorem rm2_1 (l : Launch) (Z : State) (a0 : Array Value) (hw : ∀ d ∈ tables_1, d.before a0 Z = true) (ws : List Jvm.Cond) (a_cache : Addr) (clC : Cell) (i0 : Int32) (i1 : Int32) (j2 : Int64) (i3 : Int32) (i4 : Int32) (j5 : Int64) (j6 : Int64) (j7 : Int64) (b0 : Addr) (h0 : Heap) (n0 : Nat) (O0 : Old Z n0 h0) (HE : Env1 Z a_cache clC) (g_b0 : n0 ≤ b0) (f0 : Exa Z h0 b0 "com/example/vacant_throne/vacantthrone/core/Heartbeat") (f1 : Fld Z h0 b0 "com/example/vacant_throne/vacantthrone/core/Heartbeat" "reveal" "Z" (.int (0 : Int32))) (f2 : Fld Z h0 b0 "com/example/vacant_throne/vacantthrone/core/Heartbeat" "set" "I" (.int (0 : Int32))) (f3 : Fld Z h0 b0 "com/example/vacant_throne/vacantthrone/core/Heartbeat" "sender" "J" (.long (0 : Int64))) (f4 : Fld Z h0 b0 "com/example/vacant_throne/vacantthrone/core/Heartbeat" "priority" "I" (.int (0 : Int32))) (f5 : Fld Z h0 b0 "com/example/vacant_throne/vacantthrone/core/Heartbeat" "periodMs" "I" (.int (0 : Int32))) (f6 : Fld Z h0 b0 "com/example/vacant_throne/vacantthrone/core/Heartbeat" "handOverTarget" "J" (.long (0 : Int64))) (f7 : Fld Z h0 b0 "com/example/vacant_throne/vacantthrone/core/Heartbeat" "incarnation" "J" (.long (0 : Int64))) (f8 : Fld Z h0 b0 "com/example/vacant_throne/vacantthrone/core/Heartbeat" "sequence" "J" (.long (0 : Int64))) (hp1 : ¬ ((i1.toInt64) < (0 : Int64))) (hp2 : ¬ ((65535 : Int64) < (i1.toInt64))) (hp3 : ¬ (j2 < (1 : Int64))) (hp4 : ¬ ((4294967295 : Int64) < j2)) (hp5 : ¬ ((i3.toInt64) < (0 : Int64))) (hp6 : ¬ ((65535 : Int64) < (i3.toInt64))) (hp7 : ¬ ((i4.toInt64) < (0 : Int64))) (hp8 : ¬ ((65535 : Int64) < (i4.toInt64))) (hp9 : ¬ (j5 < (0 : Int64))) (hp10 : ¬ ((4294967295 : Int64) < j5)) (hp11 : ¬ (j7 < (0 : Int64))) (hp12 : ¬ ((4294967295 : Int64) < j7)) :
    MetFree l M1 (head1 (Jvm.Cond.code M1 prog_8_method_1_code 13 none :: ws) ({ frames := 1, cells := 12, slots := 212, locals := 19 } : Room)) (fun a U => a = #[(.ref b0), (.int i0), (.int i1), (.long j2), (.int i3), (.int i4), (.long j5), (.long j6), (.long j7)] ∧ Z.Warmed39 U.vm ∧ U.heap = h0) (fun _ _ _ _ _ => True) (fun _ U o U' => ∃ v L, o = .returned v ∧ Q2_1 Z a_cache clC i0 i1 j2 i3 i4 j5 j6 j7 b0 h0 n0 v U'.heap L ∧ ReturnedEndW U o U' L ({ frames := 1, cells := 12, slots := 212, locals := 19 } : Room).cells ({ frames := 1, cells := 12, slots := 212, locals := 19 } : Room).slots) := by
 refine MetFree.of_bodySF (plainFor_of_name pn1) hisR ?_
 intro p e s m args below meth c s₁ Bd hml0 hP hK
 obtain ⟨rfl, hZ, hh⟩ := hP
 have hx := Bd.exec
 have hby := Bd.bytes
 have hml : c.maxLocals = 13 := hml0
 have hown : s.vm.findClass "com/example/vacant_throne/vacantthrone/core/Heartbeat" = some m.cls := findClass_of_methodNamed Bd.named
 have hnm := (name_of_methodNamed Bd.named Bd.method).1
 have X0 : Stand p l e ({ frames := 1, cells := 12, slots := 212, locals := 19 } : Room) (s.setVm s.vm) m #[(.ref b0), (.int i0), (.int i1), (.long j2), (.int i3), (.int i4), (.long j5), (.long j6), (.long j7)] below meth c s₁ [] 0 0 := Stand.of_body Bd
 have hS0 : s.Since s.vm s.heap.size := ⟨State.Warmed39.refl s, fun j p hj hp => absurd (Array.getElem?_eq_some_iff.mp hp).1 (Nat.not_lt.mpr hj)⟩
 have hk0 : s.heap.size ≤ h0.size := Nat.le_of_eq (congrArg Array.size hh)
 have hwS : ∀ a ∈ Bundle.stringAtoms, a.before a0 Z = true := own_string_atoms hw
 have e0 : s₁.heap = h0 := by rw [← hh, Bd.state]; rfl
 have N0 := Fr.nil n0
 let S0 : State → Prop := fun t => Steps p.tables e below (s₁.setTop (entryFrame m #[(.ref b0), (.int i0), (.int i1), (.long j2), (.int i3), (.int i4), (.long j5), (.long j6), (.long j7)] 13)) t
 let Ls1 : Array Slot := #[.val (.ref b0), .val (.int i0), .val (.int i1), .val (.long j2), .second, .val (.int i3), .val (.int i4), .val (.long j5), .second, .val (.long j6), .second, .val (.long j7), .second]
 have p0 : ∀ t, St p e below s₁ (mkF m 0 Ls1 []) t → S0 t := fun t k => castTop (ef2 m b0 i0 i1 j2 i3 i4 j5 j6 j7) k
 have HE' := HE
 obtain ⟨Scache, RC, ZC, TC⟩ := HE
 have p2 : ∀ t, St p e below s₁ (mkF m 1 Ls1 [(.ref b0)]) t → S0 t := fun t k => p0 t (by
   refine XS.aloadN X0.here hx rfl (hb hby d2_0) rfl rfl ?_
   exact k)
 obtain ⟨T3, X3, e3, st3⟩ := initO X0 hx hZ hown (ww hw 16 rfl) (ww hw 17 rfl) (ww hw 18 rfl) e0 (g := (mkF m 1 Ls1 [(.ref b0)])) rfl (by rw [hml]; rfl) rfl (hb hby d2_1) (by decide) (W := 0) (by show 2 * 0 + _ ≤ _; exact Nat.le_of_eq rfl) (by decide)
 have p4 : ∀ t, St p e below T3 (mkF m 4 Ls1 []) t → S0 t := fun t k => p2 t (st3 t k)
 have p5 : ∀ t, St p e below T3 (mkF m 6 Ls1 [(.int i0), (.ref b0)]) t → S0 t := fun t k => p4 t (by
   refine XS.aloadN X3.here hx rfl (hb hby d2_4) rfl rfl ?_
   refine XS.iloadN X3.here hx rfl (hb hby d2_5) rfl ?_
   exact k)
 obtain ⟨T6, h6, X6, e6, W6, st6⟩ := putFN X3 hx hZ hown (ww hw 19 rfl) Via.refl e3 f1 f0 (Or.inr ⟨(ww hw 20 rfl), rfl, hnm⟩) (ww hw 11 rfl) (ty := .boolean) (v' := (.int (i0 &&& (1 : Int32)))) (by decide) rfl (fits_nar_bool _) (g := (mkF m 6 Ls1 [(.int i0), (.ref b0)])) rfl rfl (hb hby d2_6)
 have E_7 := f0.wr W6
 have F_8 := f2.other W6 (Or.inr (sn0 hw))
 have F_9 := f3.other W6 (Or.inr (sn1 hw))
 have F_10 := f4.other W6 (Or.inr (sn2 hw))
 have F_11 := f5.other W6 (Or.inr (sn3 hw))
 have F_12 := f6.other W6 (Or.inr (sn4 hw))
 have F_13 := f7.other W6 (Or.inr (sn5 hw))
 have F_14 := f8.other W6 (Or.inr (sn6 hw))
 have O15 := O0.wr W6 g_b0
 have K16 := (Keep.refl h0 [b0]).wr W6 (Or.inl (List.mem_of_getElem? (i := 0) rfl))
 have hk17 := Nat.le_trans hk0 (Keep.of_wr W6).1
 have F_18 : Fld Z h6 b0 "com/example/vacant_throne/vacantthrone/core/Heartbeat" "reveal" "Z" (.int (i0 &&& (1 : Int32))) := f1.same W6
 have N19 := Fr.snoc X6 N0 g_b0
 have p20 : ∀ t, St p e below T6 (mkF m 9 Ls1 []) t → S0 t := fun t k => p5 t (st6 t k)
 have p21 : ∀ t, St p e below T6 (mkF m 10 Ls1 [(.ref b0)]) t → S0 t := fun t k => p20 t (by
   refine XS.aloadN X6.here hx rfl (hb hby d2_9) rfl rfl ?_
   exact k)
 obtain ⟨os22, T22, h22, ks22, X22, e22, E22, hS22, hk22, hZ, hown, st22⟩ := ldcS X6 hx hZ hown (ww hw 21 rfl) hwS e6 hS0 hk17 (g := (mkF m 10 Ls1 [(.ref b0)])) rfl (hb hby d2_10) (n := 12) (by decide) (by decide) (by decide) (by decide)
 have E_23 := E_7.ext E22
 have F_24 := F_18.ext E22
 have F_25 := F_8.ext E22
 have F_26 := F_9.ext E22
 have F_27 := F_10.ext E22
 have F_28 := F_11.ext E22
 have F_29 := F_12.ext E22
 have F_30 := F_13.ext E22
 have F_31 := F_14.ext E22
 have O32 := O15.ext E22
 have K33 := K16.ext E22
 have hk34 := Nat.le_trans hk17 E22.1
 have p35 : ∀ t, St p e below T22 (mkF m 12 Ls1 [(.ref os22), (.ref b0)]) t → S0 t := fun t k => p21 t (st22 t k)
 have p36 : ∀ t, St p e below T22 (mkF m 18 Ls1 [(.long (65535 : Int64)), (.long (0 : Int64)), (.long (i1.toInt64)), (.ref os22), (.ref b0)]) t → S0 t := fun t k => p35 t (by
   refine XS.iloadN X22.here hx rfl (hb hby d2_12) rfl ?_
   refine XS.i2l X22.here hx rfl (hb hby d2_13) rfl ?_
   refine XT.lconstV X22.here hx rfl (0 : Int64) (hb hby d2_14) (by decide) ?_
   refine X22.ldc2J hx hown (mvT hZ (ww hw 29 rfl)) rfl (hb hby d2_15) ?_
   exact k)
 obtain ⟨_, _, ⟨Tc37, Lc37, kc37, nc37⟩, -, Xc37, ⟨Lcc37, hQc37, lc37, yc37, zc37⟩, stc37⟩ := Jvm.LawKit.callS X22 hx (y := M0) hown (mvT hZ (ww hw 30 rfl)) (mvT hZ (ww hw 31 rfl)) (mvT hZ (ww hw 32 rfl)) (mvT hZ (ww hw 33 rfl)) (by decide) (backOf (W := 1) (rm4_2 l Z a0 hw [] a_cache clC (i1.toInt64) os22 h22 n0 O32 HE' hp1 hp2) hZ (ww hw 33 rfl) (ww hw 32 rfl) (by decide) (by decide)) (g := (mkF m 18 Ls1 [(.long (65535 : Int64)), (.long (0 : Int64)), (.long (i1.toInt64)), (.ref os22), (.ref b0)])) rfl (by rw [hml]; rfl) (argsL := [(.ref os22), (.long (i1.toInt64)), (.long (0 : Int64)), (.long (65535 : Int64))]) (rest := [(.ref b0)]) (lenOf pd0 rfl) rfl (by show 2 * 0 + _ ≤ _; exact Nat.le_of_eq rfl) (hb hby d2_18) (fun _ _ => ⟨rfl, e22, (by decide : 2 + 0 ≤ _), (by decide : 16 + 0 ≤ _)⟩)
 dsimp only [Pt.U, Pt.locs, Pt.cells, Pt.slots] at Xc37 lc37 yc37 zc37 stc37 hQc37
 subst lc37 yc37 zc37
 obtain ⟨Nqc37, ec37, hAc37⟩ := hQc37
 have Nc37 := Fr.app N19 Nqc37
 obtain rfl := hAc37
 have p38 : ∀ t, St p e below Tc37 (mkF m 21 Ls1 [(.long (i1.toInt64)), (.ref b0)]) t → S0 t := fun t k => p36 t (stc37 t k)
 have p39 : ∀ t, St p e below Tc37 (mkF m 22 Ls1 [(.int ((i1.toInt64).toInt32)), (.ref b0)]) t → S0 t := fun t k => p38 t (by
   refine XS.l2i Xc37.here hx rfl (hb hby d2_21) rfl ?_
   exact k)
 obtain ⟨T40, h40, X40, e40, W40, st40⟩ := putF Xc37 hx hZ hown (host := "") (Or.inl (ww hw 34 rfl)) Via.refl ec37 F_25 E_23 (Or.inr ⟨(ww hw 35 rfl), rfl, hnm⟩) (ww hw 11 rfl) (ty := .int) (by decide) rfl rfl (g := (mkF m 22 Ls1 [(.int ((i1.toInt64).toInt32)), (.ref b0)])) rfl rfl (hb hby d2_22)
 have E_41 := E_23.wr W40
 have F_42 := F_24.other W40 (Or.inr (sn7 hw))
 have F_43 := F_26.other W40 (Or.inr (sn8 hw))
 have F_44 := F_27.other W40 (Or.inr (sn9 hw))
 have F_45 := F_28.other W40 (Or.inr (sn10 hw))
 have F_46 := F_29.other W40 (Or.inr (sn11 hw))
 have F_47 := F_30.other W40 (Or.inr (sn12 hw))
 have F_48 := F_31.other W40 (Or.inr (sn13 hw))
 have O49 := O32.wr W40 g_b0
 have K50 := K33.wr W40 (Or.inl (List.mem_of_getElem? (i := 0) rfl))
 have hk51 := Nat.le_trans hk22 (Keep.of_wr W40).1
 have F_52 : Fld Z h40 b0 "com/example/vacant_throne/vacantthrone/core/Heartbeat" "set" "I" (.int ((i1.toInt64).toInt32)) := F_25.same W40
 have N53 := Fr.snoc X40 Nc37 g_b0
 have p54 : ∀ t, St p e below T40 (mkF m 25 Ls1 []) t → S0 t := fun t k => p39 t (st40 t k)
 have p55 : ∀ t, St p e below T40 (mkF m 26 Ls1 [(.ref b0)]) t → S0 t := fun t k => p54 t (by
   refine XS.aloadN X40.here hx rfl (hb hby d2_25) rfl rfl ?_
   exact k)
 obtain ⟨os56, T56, h56, ks56, X56, e56, E56, hS56, hk56, hZ, hown, st56⟩ := ldcS X40 hx hZ hown (ww hw 36 rfl) hwS e40 hS22 hk51 (g := (mkF m 26 Ls1 [(.ref b0)])) rfl (hb hby d2_26) (n := 24) (by decide) (by decide) (by decide) (by decide)
 have E_57 := E_41.ext E56
 have F_58 := F_42.ext E56
 have F_59 := F_52.ext E56
 have F_60 := F_43.ext E56
 have F_61 := F_44.ext E56
 have F_62 := F_45.ext E56
 have F_63 := F_46.ext E56
 have F_64 := F_47.ext E56
 have F_65 := F_48.ext E56
 have O66 := O49.ext E56
 have K67 := K50.ext E56
 have hk68 := Nat.le_trans hk51 E56.1
 have p69 : ∀ t, St p e below T56 (mkF m 28 Ls1 [(.ref os56), (.ref b0)]) t → S0 t := fun t k => p55 t (st56 t k)
 have p70 : ∀ t, St p e below T56 (mkF m 33 Ls1 [(.long (4294967295 : Int64)), (.long (1 : Int64)), (.long j2), (.ref os56), (.ref b0)]) t → S0 t := fun t k => p69 t (by
   refine XS.lloadN X56.here hx rfl (hb hby d2_28) rfl ?_
   refine XT.lconstV X56.here hx rfl (1 : Int64) (hb hby d2_29) (by decide) ?_
   refine X56.ldc2J hx hown (mvT hZ (ww hw 37 rfl)) rfl (hb hby d2_30) ?_
   exact k)
 obtain ⟨_, _, ⟨Tc71, Lc71, kc71, nc71⟩, -, Xc71, ⟨Lcc71, hQc71, lc71, yc71, zc71⟩, stc71⟩ := Jvm.LawKit.callS X56 hx (y := M0) hown (mvT hZ (ww hw 30 rfl)) (mvT hZ (ww hw 31 rfl)) (mvT hZ (ww hw 32 rfl)) (mvT hZ (ww hw 33 rfl)) (by decide) (backOf (W := 1) (rm4_3 l Z a0 hw [] a_cache clC j2 os56 h56 n0 O66 HE' hp3 hp4) hZ (ww hw 33 rfl) (ww hw 32 rfl) (by decide) (by decide)) (g := (mkF m 33 Ls1 [(.long (4294967295 : Int64)), (.long (1 : Int64)), (.long j2), (.ref os56), (.ref b0)])) rfl (by rw [hml]; rfl) (argsL := [(.ref os56), (.long j2), (.long (1 : Int64)), (.long (4294967295 : Int64))]) (rest := [(.ref b0)]) (lenOf pd0 rfl) rfl (by show 2 * 0 + _ ≤ _; exact Nat.le_of_eq rfl) (hb hby d2_33) (fun _ _ => ⟨rfl, e56, (by decide : 4 + 0 ≤ _), (by decide : 44 + 0 ≤ _)⟩)
 dsimp only [Pt.U, Pt.locs, Pt.cells, Pt.slots] at Xc71 lc71 yc71 zc71 stc71 hQc71
 subst lc71 yc71 zc71
 obtain ⟨Nqc71, ec71, hAc71⟩ := hQc71
 have Nc71 := Fr.app N53 Nqc71
 obtain rfl := hAc71
 have p72 : ∀ t, St p e below Tc71 (mkF m 36 Ls1 [(.long j2), (.ref b0)]) t → S0 t := fun t k => p70 t (stc71 t k)
 obtain ⟨T73, h73, X73, e73, W73, st73⟩ := putF Xc71 hx hZ hown (host := "") (Or.inl (ww hw 38 rfl)) Via.refl ec71 F_60 E_57 (Or.inr ⟨(ww hw 39 rfl), rfl, hnm⟩) (ww hw 11 rfl) (ty := .long) (by decide) rfl rfl (g := (mkF m 36 Ls1 [(.long j2), (.ref b0)])) rfl rfl (hb hby d2_36)
 have E_74 := E_57.wr W73
 have F_75 := F_58.other W73 (Or.inr (sn14 hw))
 have F_76 := F_59.other W73 (Or.inr (sn15 hw))
 have F_77 := F_61.other W73 (Or.inr (sn16 hw))
 have F_78 := F_62.other W73 (Or.inr (sn17 hw))
 have F_79 := F_63.other W73 (Or.inr (sn18 hw))
 have F_80 := F_64.other W73 (Or.inr (sn19 hw))
 have F_81 := F_65.other W73 (Or.inr (sn20 hw))
 have O82 := O66.wr W73 g_b0
 have K83 := K67.wr W73 (Or.inl (List.mem_of_getElem? (i := 0) rfl))
 have hk84 := Nat.le_trans hk56 (Keep.of_wr W73).1
 have F_85 : Fld Z h73 b0 "com/example/vacant_throne/vacantthrone/core/Heartbeat" "sender" "J" (.long j2) := F_60.same W73
 have N86 := Fr.snoc X73 Nc71 g_b0
 have p87 : ∀ t, St p e below T73 (mkF m 39 Ls1 []) t → S0 t := fun t k => p72 t (st73 t k)
 have p88 : ∀ t, St p e below T73 (mkF m 40 Ls1 [(.ref b0)]) t → S0 t := fun t k => p87 t (by
   refine XS.aloadN X73.here hx rfl (hb hby d2_39) rfl rfl ?_
   exact k)
 obtain ⟨os89, T89, h89, ks89, X89, e89, E89, hS89, hk89, hZ, hown, st89⟩ := ldcS X73 hx hZ hown (ww hw 40 rfl) hwS e73 hS56 hk84 (g := (mkF m 40 Ls1 [(.ref b0)])) rfl (hb hby d2_40) (n := 32) (by decide) (by decide) (by decide) (by decide)
 have E_90 := E_74.ext E89
 have F_91 := F_75.ext E89
 have F_92 := F_76.ext E89
 have F_93 := F_85.ext E89
 have F_94 := F_77.ext E89
 have F_95 := F_78.ext E89
 have F_96 := F_79.ext E89
 have F_97 := F_80.ext E89
 have F_98 := F_81.ext E89
 have O99 := O82.ext E89
 have K100 := K83.ext E89
 have hk101 := Nat.le_trans hk84 E89.1
 have p102 : ∀ t, St p e below T89 (mkF m 42 Ls1 [(.ref os89), (.ref b0)]) t → S0 t := fun t k => p88 t (st89 t k)
 have p103 : ∀ t, St p e below T89 (mkF m 49 Ls1 [(.long (65535 : Int64)), (.long (0 : Int64)), (.long (i3.toInt64)), (.ref os89), (.ref b0)]) t → S0 t := fun t k => p102 t (by
   refine XS.iload X89.here hx rfl (hb hby d2_42) rfl ?_
   refine XS.i2l X89.here hx rfl (hb hby d2_44) rfl ?_
   refine XT.lconstV X89.here hx rfl (0 : Int64) (hb hby d2_45) (by decide) ?_
   refine X89.ldc2J hx hown (mvT hZ (ww hw 29 rfl)) rfl (hb hby d2_46) ?_
   exact k)
 obtain ⟨_, _, ⟨Tc104, Lc104, kc104, nc104⟩, -, Xc104, ⟨Lcc104, hQc104, lc104, yc104, zc104⟩, stc104⟩ := Jvm.LawKit.callS X89 hx (y := M0) hown (mvT hZ (ww hw 30 rfl)) (mvT hZ (ww hw 31 rfl)) (mvT hZ (ww hw 32 rfl)) (mvT hZ (ww hw 33 rfl)) (by decide) (backOf (W := 1) (rm4_2 l Z a0 hw [] a_cache clC (i3.toInt64) os89 h89 n0 O99 HE' hp5 hp6) hZ (ww hw 33 rfl) (ww hw 32 rfl) (by decide) (by decide)) (g := (mkF m 49 Ls1 [(.long (65535 : Int64)), (.long (0 : Int64)), (.long (i3.toInt64)), (.ref os89), (.ref b0)])) rfl (by rw [hml]; rfl) (argsL := [(.ref os89), (.long (i3.toInt64)), (.long (0 : Int64)), (.long (65535 : Int64))]) (rest := [(.ref b0)]) (lenOf pd0 rfl) rfl (by show 2 * 0 + _ ≤ _; exact Nat.le_of_eq rfl) (hb hby d2_49) (fun _ _ => ⟨rfl, e89, (by decide : 6 + 0 ≤ _), (by decide : 80 + 0 ≤ _)⟩)
 dsimp only [Pt.U, Pt.locs, Pt.cells, Pt.slots] at Xc104 lc104 yc104 zc104 stc104 hQc104
 subst lc104 yc104 zc104
 obtain ⟨Nqc104, ec104, hAc104⟩ := hQc104
 have Nc104 := Fr.app N86 Nqc104
 obtain rfl := hAc104
 have p105 : ∀ t, St p e below Tc104 (mkF m 52 Ls1 [(.long (i3.toInt64)), (.ref b0)]) t → S0 t := fun t k => p103 t (stc104 t k)
 have p106 : ∀ t, St p e below Tc104 (mkF m 53 Ls1 [(.int ((i3.toInt64).toInt32)), (.ref b0)]) t → S0 t := fun t k => p105 t (by
   refine XS.l2i Xc104.here hx rfl (hb hby d2_52) rfl ?_
   exact k)
 obtain ⟨T107, h107, X107, e107, W107, st107⟩ := putF Xc104 hx hZ hown (host := "") (Or.inl (ww hw 41 rfl)) Via.refl ec104 F_94 E_90 (Or.inr ⟨(ww hw 42 rfl), rfl, hnm⟩) (ww hw 11 rfl) (ty := .int) (by decide) rfl rfl (g := (mkF m 53 Ls1 [(.int ((i3.toInt64).toInt32)), (.ref b0)])) rfl rfl (hb hby d2_53)
 have E_108 := E_90.wr W107
 have F_109 := F_91.other W107 (Or.inr (sn21 hw))
 have F_110 := F_92.other W107 (Or.inr (sn22 hw))
 have F_111 := F_93.other W107 (Or.inr (sn23 hw))
 have F_112 := F_95.other W107 (Or.inr (sn24 hw))
 have F_113 := F_96.other W107 (Or.inr (sn25 hw))
 have F_114 := F_97.other W107 (Or.inr (sn26 hw))
 have F_115 := F_98.other W107 (Or.inr (sn27 hw))
 have O116 := O99.wr W107 g_b0
 have K117 := K100.wr W107 (Or.inl (List.mem_of_getElem? (i := 0) rfl))
 have hk118 := Nat.le_trans hk89 (Keep.of_wr W107).1
 have F_119 : Fld Z h107 b0 "com/example/vacant_throne/vacantthrone/core/Heartbeat" "priority" "I" (.int ((i3.toInt64).toInt32)) := F_94.same W107
 have N120 := Fr.snoc X107 Nc104 g_b0
 have p121 : ∀ t, St p e below T107 (mkF m 56 Ls1 []) t → S0 t := fun t k => p106 t (st107 t k)
 have p122 : ∀ t, St p e below T107 (mkF m 57 Ls1 [(.ref b0)]) t → S0 t := fun t k => p121 t (by
   refine XS.aloadN X107.here hx rfl (hb hby d2_56) rfl rfl ?_
   exact k)
 obtain ⟨os123, T123, h123, ks123, X123, e123, E123, hS123, hk123, hZ, hown, st123⟩ := ldcS X107 hx hZ hown (ww hw 43 rfl) hwS e107 hS89 hk118 (g := (mkF m 57 Ls1 [(.ref b0)])) rfl (hb hby d2_57) (n := 32) (by decide) (by decide) (by decide) (by decide)
 have E_124 := E_108.ext E123
 have F_125 := F_109.ext E123
 have F_126 := F_110.ext E123
 have F_127 := F_111.ext E123
 have F_128 := F_119.ext E123
 have F_129 := F_112.ext E123
 have F_130 := F_113.ext E123
 have F_131 := F_114.ext E123
 have F_132 := F_115.ext E123
 have O133 := O116.ext E123
 have K134 := K117.ext E123
 have hk135 := Nat.le_trans hk118 E123.1
 have p136 : ∀ t, St p e below T123 (mkF m 59 Ls1 [(.ref os123), (.ref b0)]) t → S0 t := fun t k => p122 t (st123 t k)
 have p137 : ∀ t, St p e below T123 (mkF m 66 Ls1 [(.long (65535 : Int64)), (.long (0 : Int64)), (.long (i4.toInt64)), (.ref os123), (.ref b0)]) t → S0 t := fun t k => p136 t (by
   refine XS.iload X123.here hx rfl (hb hby d2_59) rfl ?_
   refine XS.i2l X123.here hx rfl (hb hby d2_61) rfl ?_
   refine XT.lconstV X123.here hx rfl (0 : Int64) (hb hby d2_62) (by decide) ?_
   refine X123.ldc2J hx hown (mvT hZ (ww hw 29 rfl)) rfl (hb hby d2_63) ?_
   exact k)
 obtain ⟨_, _, ⟨Tc138, Lc138, kc138, nc138⟩, -, Xc138, ⟨Lcc138, hQc138, lc138, yc138, zc138⟩, stc138⟩ := Jvm.LawKit.callS X123 hx (y := M0) hown (mvT hZ (ww hw 30 rfl)) (mvT hZ (ww hw 31 rfl)) (mvT hZ (ww hw 32 rfl)) (mvT hZ (ww hw 33 rfl)) (by decide) (backOf (W := 1) (rm4_2 l Z a0 hw [] a_cache clC (i4.toInt64) os123 h123 n0 O133 HE' hp7 hp8) hZ (ww hw 33 rfl) (ww hw 32 rfl) (by decide) (by decide)) (g := (mkF m 66 Ls1 [(.long (65535 : Int64)), (.long (0 : Int64)), (.long (i4.toInt64)), (.ref os123), (.ref b0)])) rfl (by rw [hml]; rfl) (argsL := [(.ref os123), (.long (i4.toInt64)), (.long (0 : Int64)), (.long (65535 : Int64))]) (rest := [(.ref b0)]) (lenOf pd0 rfl) rfl (by show 2 * 0 + _ ≤ _; exact Nat.le_of_eq rfl) (hb hby d2_66) (fun _ _ => ⟨rfl, e123, (by decide : 8 + 0 ≤ _), (by decide : 116 + 0 ≤ _)⟩)
 dsimp only [Pt.U, Pt.locs, Pt.cells, Pt.slots] at Xc138 lc138 yc138 zc138 stc138 hQc138
 subst lc138 yc138 zc138
 obtain ⟨Nqc138, ec138, hAc138⟩ := hQc138
 have Nc138 := Fr.app N120 Nqc138
 obtain rfl := hAc138
 have p139 : ∀ t, St p e below Tc138 (mkF m 69 Ls1 [(.long (i4.toInt64)), (.ref b0)]) t → S0 t := fun t k => p137 t (stc138 t k)
 have p140 : ∀ t, St p e below Tc138 (mkF m 70 Ls1 [(.int ((i4.toInt64).toInt32)), (.ref b0)]) t → S0 t := fun t k => p139 t (by
   refine XS.l2i Xc138.here hx rfl (hb hby d2_69) rfl ?_
   exact k)
 obtain ⟨T141, h141, X141, e141, W141, st141⟩ := putF Xc138 hx hZ hown (host := "") (Or.inl (ww hw 44 rfl)) Via.refl ec138 F_129 E_124 (Or.inr ⟨(ww hw 45 rfl), rfl, hnm⟩) (ww hw 11 rfl) (ty := .int) (by decide) rfl rfl (g := (mkF m 70 Ls1 [(.int ((i4.toInt64).toInt32)), (.ref b0)])) rfl rfl (hb hby d2_70)
 have E_142 := E_124.wr W141
 have F_143 := F_125.other W141 (Or.inr (sn28 hw))
 have F_144 := F_126.other W141 (Or.inr (sn29 hw))
 have F_145 := F_127.other W141 (Or.inr (sn30 hw))
 have F_146 := F_128.other W141 (Or.inr (sn31 hw))
 have F_147 := F_130.other W141 (Or.inr (sn32 hw))
 have F_148 := F_131.other W141 (Or.inr (sn33 hw))
 have F_149 := F_132.other W141 (Or.inr (sn34 hw))
 have O150 := O133.wr W141 g_b0
 have K151 := K134.wr W141 (Or.inl (List.mem_of_getElem? (i := 0) rfl))
 have hk152 := Nat.le_trans hk123 (Keep.of_wr W141).1
 have F_153 : Fld Z h141 b0 "com/example/vacant_throne/vacantthrone/core/Heartbeat" "periodMs" "I" (.int ((i4.toInt64).toInt32)) := F_129.same W141
 have N154 := Fr.snoc X141 Nc138 g_b0
 have p155 : ∀ t, St p e below T141 (mkF m 73 Ls1 []) t → S0 t := fun t k => p140 t (st141 t k)
 have p156 : ∀ t, St p e below T141 (mkF m 74 Ls1 [(.ref b0)]) t → S0 t := fun t k => p155 t (by
   refine XS.aloadN X141.here hx rfl (hb hby d2_73) rfl rfl ?_
   exact k)
 obtain ⟨os157, T157, h157, ks157, X157, e157, E157, hS157, hk157, hZ, hown, st157⟩ := ldcS X141 hx hZ hown (ww hw 46 rfl) hwS e141 hS123 hk152 (g := (mkF m 74 Ls1 [(.ref b0)])) rfl (hb hby d2_74) (n := 56) (by decide) (by decide) (by decide) (by decide)
 have E_158 := E_142.ext E157
 have F_159 := F_143.ext E157
 have F_160 := F_144.ext E157
 have F_161 := F_145.ext E157
 have F_162 := F_146.ext E157
 have F_163 := F_153.ext E157
 have F_164 := F_147.ext E157
 have F_165 := F_148.ext E157
 have F_166 := F_149.ext E157
 have O167 := O150.ext E157
 have K168 := K151.ext E157
 have hk169 := Nat.le_trans hk152 E157.1
 have p170 : ∀ t, St p e below T157 (mkF m 76 Ls1 [(.ref os157), (.ref b0)]) t → S0 t := fun t k => p156 t (st157 t k)
 have p171 : ∀ t, St p e below T157 (mkF m 82 Ls1 [(.long (4294967295 : Int64)), (.long (0 : Int64)), (.long j5), (.ref os157), (.ref b0)]) t → S0 t := fun t k => p170 t (by
   refine XS.lload X157.here hx rfl (hb hby d2_76) rfl ?_
   refine XT.lconstV X157.here hx rfl (0 : Int64) (hb hby d2_78) (by decide) ?_
   refine X157.ldc2J hx hown (mvT hZ (ww hw 37 rfl)) rfl (hb hby d2_79) ?_
   exact k)
 obtain ⟨_, _, ⟨Tc172, Lc172, kc172, nc172⟩, -, Xc172, ⟨Lcc172, hQc172, lc172, yc172, zc172⟩, stc172⟩ := Jvm.LawKit.callS X157 hx (y := M0) hown (mvT hZ (ww hw 30 rfl)) (mvT hZ (ww hw 31 rfl)) (mvT hZ (ww hw 32 rfl)) (mvT hZ (ww hw 33 rfl)) (by decide) (backOf (W := 1) (rm4_4 l Z a0 hw [] a_cache clC j5 os157 h157 n0 O167 HE' hp9 hp10) hZ (ww hw 33 rfl) (ww hw 32 rfl) (by decide) (by decide)) (g := (mkF m 82 Ls1 [(.long (4294967295 : Int64)), (.long (0 : Int64)), (.long j5), (.ref os157), (.ref b0)])) rfl (by rw [hml]; rfl) (argsL := [(.ref os157), (.long j5), (.long (0 : Int64)), (.long (4294967295 : Int64))]) (rest := [(.ref b0)]) (lenOf pd0 rfl) rfl (by show 2 * 0 + _ ≤ _; exact Nat.le_of_eq rfl) (hb hby d2_82) (fun _ _ => ⟨rfl, e157, (by decide : 10 + 0 ≤ _), (by decide : 176 + 0 ≤ _)⟩)
 dsimp only [Pt.U, Pt.locs, Pt.cells, Pt.slots] at Xc172 lc172 yc172 zc172 stc172 hQc172
 subst lc172 yc172 zc172
 obtain ⟨Nqc172, ec172, hAc172⟩ := hQc172
 have Nc172 := Fr.app N154 Nqc172
 obtain rfl := hAc172
 have p173 : ∀ t, St p e below Tc172 (mkF m 85 Ls1 [(.long j5), (.ref b0)]) t → S0 t := fun t k => p171 t (stc172 t k)
 obtain ⟨T174, h174, X174, e174, W174, st174⟩ := putF Xc172 hx hZ hown (host := "") (Or.inl (ww hw 47 rfl)) Via.refl ec172 F_164 E_158 (Or.inr ⟨(ww hw 48 rfl), rfl, hnm⟩) (ww hw 11 rfl) (ty := .long) (by decide) rfl rfl (g := (mkF m 85 Ls1 [(.long j5), (.ref b0)])) rfl rfl (hb hby d2_85)
 have E_175 := E_158.wr W174
 have F_176 := F_159.other W174 (Or.inr (sn35 hw))
 have F_177 := F_160.other W174 (Or.inr (sn36 hw))
 have F_178 := F_161.other W174 (Or.inr (sn37 hw))
 have F_179 := F_162.other W174 (Or.inr (sn38 hw))
 have F_180 := F_163.other W174 (Or.inr (sn39 hw))
 have F_181 := F_165.other W174 (Or.inr (sn40 hw))
 have F_182 := F_166.other W174 (Or.inr (sn41 hw))
 have O183 := O167.wr W174 g_b0
 have K184 := K168.wr W174 (Or.inl (List.mem_of_getElem? (i := 0) rfl))
 have hk185 := Nat.le_trans hk157 (Keep.of_wr W174).1
 have F_186 : Fld Z h174 b0 "com/example/vacant_throne/vacantthrone/core/Heartbeat" "handOverTarget" "J" (.long j5) := F_164.same W174
 have N187 := Fr.snoc X174 Nc172 g_b0
 have p188 : ∀ t, St p e below T174 (mkF m 88 Ls1 []) t → S0 t := fun t k => p173 t (st174 t k)
 have p189 : ∀ t, St p e below T174 (mkF m 91 Ls1 [(.long j6), (.ref b0)]) t → S0 t := fun t k => p188 t (by
   refine XS.aloadN X174.here hx rfl (hb hby d2_88) rfl rfl ?_
   refine XS.lload X174.here hx rfl (hb hby d2_89) rfl ?_
   exact k)
 obtain ⟨T190, h190, X190, e190, W190, st190⟩ := putF X174 hx hZ hown (host := "") (Or.inl (ww hw 49 rfl)) Via.refl e174 F_181 E_175 (Or.inr ⟨(ww hw 50 rfl), rfl, hnm⟩) (ww hw 11 rfl) (ty := .long) (by decide) rfl rfl (g := (mkF m 91 Ls1 [(.long j6), (.ref b0)])) rfl rfl (hb hby d2_91)
 have E_191 := E_175.wr W190
 have F_192 := F_176.other W190 (Or.inr (sn42 hw))
 have F_193 := F_177.other W190 (Or.inr (sn43 hw))
 have F_194 := F_178.other W190 (Or.inr (sn44 hw))
 have F_195 := F_179.other W190 (Or.inr (sn45 hw))
 have F_196 := F_180.other W190 (Or.inr (sn46 hw))
 have F_197 := F_186.other W190 (Or.inr (sn47 hw))
 have F_198 := F_182.other W190 (Or.inr (sn48 hw))
 have O199 := O183.wr W190 g_b0
 have K200 := K184.wr W190 (Or.inl (List.mem_of_getElem? (i := 0) rfl))
 have hk201 := Nat.le_trans hk185 (Keep.of_wr W190).1
 have F_202 : Fld Z h190 b0 "com/example/vacant_throne/vacantthrone/core/Heartbeat" "incarnation" "J" (.long j6) := F_181.same W190
 have N203 := Fr.snoc X190 N187 g_b0
 have p204 : ∀ t, St p e below T190 (mkF m 94 Ls1 []) t → S0 t := fun t k => p189 t (st190 t k)
 have p205 : ∀ t, St p e below T190 (mkF m 95 Ls1 [(.ref b0)]) t → S0 t := fun t k => p204 t (by
   refine XS.aloadN X190.here hx rfl (hb hby d2_94) rfl rfl ?_
   exact k)
 obtain ⟨os206, T206, h206, ks206, X206, e206, E206, hS206, hk206, hZ, hown, st206⟩ := ldcS X190 hx hZ hown (ww hw 51 rfl) hwS e190 hS157 hk201 (g := (mkF m 95 Ls1 [(.ref b0)])) rfl (hb hby d2_95) (n := 32) (by decide) (by decide) (by decide) (by decide)
 have E_207 := E_191.ext E206
 have F_208 := F_192.ext E206
 have F_209 := F_193.ext E206
 have F_210 := F_194.ext E206
 have F_211 := F_195.ext E206
 have F_212 := F_196.ext E206
 have F_213 := F_197.ext E206
 have F_214 := F_202.ext E206
 have F_215 := F_198.ext E206
 have O216 := O199.ext E206
 have K217 := K200.ext E206
 have hk218 := Nat.le_trans hk201 E206.1
 have p219 : ∀ t, St p e below T206 (mkF m 97 Ls1 [(.ref os206), (.ref b0)]) t → S0 t := fun t k => p205 t (st206 t k)
 have p220 : ∀ t, St p e below T206 (mkF m 103 Ls1 [(.long (4294967295 : Int64)), (.long (0 : Int64)), (.long j7), (.ref os206), (.ref b0)]) t → S0 t := fun t k => p219 t (by
   refine XS.lload X206.here hx rfl (hb hby d2_97) rfl ?_
   refine XT.lconstV X206.here hx rfl (0 : Int64) (hb hby d2_99) (by decide) ?_
   refine X206.ldc2J hx hown (mvT hZ (ww hw 37 rfl)) rfl (hb hby d2_100) ?_
   exact k)
 obtain ⟨_, _, ⟨Tc221, Lc221, kc221, nc221⟩, -, Xc221, ⟨Lcc221, hQc221, lc221, yc221, zc221⟩, stc221⟩ := Jvm.LawKit.callS X206 hx (y := M0) hown (mvT hZ (ww hw 30 rfl)) (mvT hZ (ww hw 31 rfl)) (mvT hZ (ww hw 32 rfl)) (mvT hZ (ww hw 33 rfl)) (by decide) (backOf (W := 1) (rm4_4 l Z a0 hw [] a_cache clC j7 os206 h206 n0 O216 HE' hp11 hp12) hZ (ww hw 33 rfl) (ww hw 32 rfl) (by decide) (by decide)) (g := (mkF m 103 Ls1 [(.long (4294967295 : Int64)), (.long (0 : Int64)), (.long j7), (.ref os206), (.ref b0)])) rfl (by rw [hml]; rfl) (argsL := [(.ref os206), (.long j7), (.long (0 : Int64)), (.long (4294967295 : Int64))]) (rest := [(.ref b0)]) (lenOf pd0 rfl) rfl (by show 2 * 0 + _ ≤ _; exact Nat.le_of_eq rfl) (hb hby d2_103) (fun _ _ => ⟨rfl, e206, (by decide : 12 + 0 ≤ _), (by decide : 212 + 0 ≤ _)⟩)
 dsimp only [Pt.U, Pt.locs, Pt.cells, Pt.slots] at Xc221 lc221 yc221 zc221 stc221 hQc221
 subst lc221 yc221 zc221
 obtain ⟨Nqc221, ec221, hAc221⟩ := hQc221
 have Nc221 := Fr.app N203 Nqc221
 obtain rfl := hAc221
 have p222 : ∀ t, St p e below Tc221 (mkF m 106 Ls1 [(.long j7), (.ref b0)]) t → S0 t := fun t k => p220 t (stc221 t k)
 obtain ⟨T223, h223, X223, e223, W223, st223⟩ := putF Xc221 hx hZ hown (host := "") (Or.inl (ww hw 52 rfl)) Via.refl ec221 F_215 E_207 (Or.inr ⟨(ww hw 53 rfl), rfl, hnm⟩) (ww hw 11 rfl) (ty := .long) (by decide) rfl rfl (g := (mkF m 106 Ls1 [(.long j7), (.ref b0)])) rfl rfl (hb hby d2_106)
 have E_224 := E_207.wr W223
 have F_225 := F_208.other W223 (Or.inr (sn49 hw))
 have F_226 := F_209.other W223 (Or.inr (sn50 hw))
 have F_227 := F_210.other W223 (Or.inr (sn51 hw))
 have F_228 := F_211.other W223 (Or.inr (sn52 hw))
 have F_229 := F_212.other W223 (Or.inr (sn53 hw))
 have F_230 := F_213.other W223 (Or.inr (sn54 hw))
 have F_231 := F_214.other W223 (Or.inr (sn55 hw))
 have O232 := O216.wr W223 g_b0
 have K233 := K217.wr W223 (Or.inl (List.mem_of_getElem? (i := 0) rfl))
 have hk234 := Nat.le_trans hk206 (Keep.of_wr W223).1
 have F_235 : Fld Z h223 b0 "com/example/vacant_throne/vacantthrone/core/Heartbeat" "sequence" "J" (.long j7) := F_215.same W223
 have N236 := Fr.snoc X223 Nc221 g_b0
 have p237 : ∀ t, St p e below T223 (mkF m 109 Ls1 []) t → S0 t := fun t k => p222 t (st223 t k)
 obtain ⟨fs, hr, hrun, hended, hE1, hE2, hE3, hE4⟩ := X223.leaveW hS206 (by rw [e223]; exact hk234) (v := none) (fun _ => rfl)
 refine ⟨_, _, p237 _ ?_, hrun, hended, _, _, rfl, ?_, hE1, hE2, hE3, hE4.mono (by decide) (by decide)⟩
 · exact X223.returnOut hx Bd.returns (hb hby d2_109) hr
 · show Q2_1 Z a_cache clC i0 i1 j2 i3 i4 j5 j6 j7 b0 h0 n0 _ T223.heap _
   rw [e223]
   exact ⟨N236, ⟨rfl, K233, E_224, F_225, F_226, F_227, F_228, F_229, F_230, F_231, F_235⟩⟩
theorem pd1 : parseMethodDescriptor "(ZIJIIJJJ)V" = some ⟨[.boolean, .int, .long, .int, .int, .long, .long, .long], none⟩ := by decide +kernel
theorem d1_43 : decode method_2_code 43 = .ok (.invokespecial 9, 3) := by decide +kernel
theorem d1_46 : decode method_2_code 46 = .ok (.areturn, 1) := by decide +kernel
def Q1_0 (Z : State) (a_cache : Addr) (clC : Cell) (j0 : Int64) (j1 : Int64) (j2 : Int64) (j3 : Int64) (j4 : Int64) (j5 : Int64) (j6 : Int64) (j7 : Int64) (b0 : Addr) (k1 : ClassId) (h0 : Heap) (n0 : Nat) (v : Option Value) (h : Heap) (L : List Loc) : Prop := Fr n0 L ∧ ((∃ (o1 : Addr), v = some (.ref o1) ∧ Keep h0 h [] ∧ n0 ≤ o1 ∧ h0.size ≤ o1 ∧ Exa Z h o1 "com/example/vacant_throne/vacantthrone/core/Heartbeat" ∧ Fld Z h o1 "com/example/vacant_throne/vacantthrone/core/Heartbeat" "reveal" "Z" (.int ((own_nz j0) &&& (1 : Int32))) ∧ Fld Z h o1 "com/example/vacant_throne/vacantthrone/core/Heartbeat" "set" "I" (.int (((j1.toInt32).toInt64).toInt32)) ∧ Fld Z h o1 "com/example/vacant_throne/vacantthrone/core/Heartbeat" "sender" "J" (.long j2) ∧ Fld Z h o1 "com/example/vacant_throne/vacantthrone/core/Heartbeat" "priority" "I" (.int (((j3.toInt32).toInt64).toInt32)) ∧ Fld Z h o1 "com/example/vacant_throne/vacantthrone/core/Heartbeat" "periodMs" "I" (.int (((j4.toInt32).toInt64).toInt32)) ∧ Fld Z h o1 "com/example/vacant_throne/vacantthrone/core/Heartbeat" "handOverTarget" "J" (.long j5) ∧ Fld Z h o1 "com/example/vacant_throne/vacantthrone/core/Heartbeat" "incarnation" "J" (.long j6) ∧ Fld Z h o1 "com/example/vacant_throne/vacantthrone/core/Heartbeat" "sequence" "J" (.long j7)))
set_option maxRecDepth 65536 in
set_option maxHeartbeats 40000000 in
theorem rm1_0 (l : Launch) (Z : State) (a0 : Array Value) (hw : ∀ d ∈ tables_1, d.before a0 Z = true) (ws : List Jvm.Cond) (a_cache : Addr) (clC : Cell) (j0 : Int64) (j1 : Int64) (j2 : Int64) (j3 : Int64) (j4 : Int64) (j5 : Int64) (j6 : Int64) (j7 : Int64) (b0 : Addr) (k1 : ClassId) (h0 : Heap) (n0 : Nat) (O0 : Old Z n0 h0) (HE : Env1 Z a_cache clC) (g_b0 : n0 ≤ b0) (f0 : Arv Z h0 b0 k1 .long (8 : Int32) [(.long j0), (.long j1), (.long j2), (.long j3), (.long j4), (.long j5), (.long j6), (.long j7)] (.long (0 : Int64))) (hp1 : ¬ (((j1.toInt32).toInt64) < (0 : Int64))) (hp2 : ¬ ((65535 : Int64) < ((j1.toInt32).toInt64))) (hp3 : ¬ (j2 < (1 : Int64))) (hp4 : ¬ ((4294967295 : Int64) < j2)) (hp5 : ¬ (((j3.toInt32).toInt64) < (0 : Int64))) (hp6 : ¬ ((65535 : Int64) < ((j3.toInt32).toInt64))) (hp7 : ¬ (((j4.toInt32).toInt64) < (0 : Int64))) (hp8 : ¬ ((65535 : Int64) < ((j4.toInt32).toInt64))) (hp9 : ¬ (j5 < (0 : Int64))) (hp10 : ¬ ((4294967295 : Int64) < j5)) (hp11 : ¬ (j7 < (0 : Int64))) (hp12 : ¬ ((4294967295 : Int64) < j7)) :
    MetFree l M2 (head1 (Jvm.Cond.code M2 method_2_code 1 (some (.object "com/example/vacant_throne/vacantthrone/core/Heartbeat")) :: ws) ({ frames := 2, cells := 13, slots := 220, locals := 44 } : Room)) (fun a U => a = #[(.ref b0)] ∧ Z.Warmed39 U.vm ∧ U.heap = h0) (fun _ _ _ _ _ => True) (fun _ U o U' => ∃ v L, o = .returned v ∧ Q1_0 Z a_cache clC j0 j1 j2 j3 j4 j5 j6 j7 b0 k1 h0 n0 v U'.heap L ∧ ReturnedEndW U o U' L ({ frames := 2, cells := 13, slots := 220, locals := 44 } : Room).cells ({ frames := 2, cells := 13, slots := 220, locals := 44 } : Room).slots) := by
 refine MetFree.of_bodySF (plainFor_of_name pn0) hisR ?_
 intro p e s m args below meth c s₁ Bd hml0 hP hK
 obtain ⟨rfl, hZ, hh⟩ := hP
 have hx := Bd.exec
 have hby := Bd.bytes
 have hml : c.maxLocals = 1 := hml0
 have hown : s.vm.findClass "com/example/vacant_throne/vacantthrone/core/HeartbeatEqualsPinLaw" = some m.cls := findClass_of_methodNamed Bd.named
 have hnm := (name_of_methodNamed Bd.named Bd.method).1
 have X0 : Stand p l e ({ frames := 2, cells := 13, slots := 220, locals := 44 } : Room) (s.setVm s.vm) m #[(.ref b0)] below meth c s₁ [] 0 0 := Stand.of_body Bd
 have hS0 : s.Since s.vm s.heap.size := ⟨State.Warmed39.refl s, fun j p hj hp => absurd (Array.getElem?_eq_some_iff.mp hp).1 (Nat.not_lt.mpr hj)⟩
 have hk0 : s.heap.size ≤ h0.size := Nat.le_of_eq (congrArg Array.size hh)
 have hwS : ∀ a ∈ Bundle.stringAtoms, a.before a0 Z = true := own_string_atoms hw
 have e0 : s₁.heap = h0 := by rw [← hh, Bd.state]; rfl
 have N0 := Fr.nil n0
 let S0 : State → Prop := fun t => Steps p.tables e below (s₁.setTop (entryFrame m #[(.ref b0)] 1)) t
 have p0 : ∀ t, St p e below s₁ (mkF m 0 #[.val (.ref b0)] []) t → S0 t := fun t k => castTop (ef1 m b0) k
 have HE' := HE
 obtain ⟨Scache, RC, ZC, TC⟩ := HE
 obtain ⟨T1, h1, X1, e1, E1, A1, D1, -, st1⟩ := newO X0 hx hZ hown (ww hw 10 rfl) (ww hw 11 rfl) (ww hw 12 rfl) e0 (g := (mkF m 0 #[.val (.ref b0)] [])) rfl (hb hby d1_0) (by decide) (by decide)
 obtain ⟨o1, gq1⟩ : ∃ z, z = (h0).size := ⟨_, rfl⟩
 rw [← gq1] at A1 D1 st1
 have gb_o1 : n0 ≤ o1 := Nat.le_trans (own_old_le O0) (Nat.le_of_eq gq1.symm)
 have sz_o1 : h0.size ≤ o1 := Nat.le_trans ((Keep.refl h0 [])).1 (Nat.le_of_eq gq1.symm)
 have ne_b0_o1 : b0 ≠ o1 := Nat.ne_of_lt (Nat.lt_of_lt_of_le f0.lt (Nat.le_of_eq gq1.symm))
 have V_2 := f0.ext E1
 have O3 := O0.ext E1
 have K4 := (Keep.refl h0 []).ext E1
 have hk5 := Nat.le_trans hk0 E1.1
 have E_6 : Exa Z h1 o1 "com/example/vacant_throne/vacantthrone/core/Heartbeat" := A1
 have F_7 : Fld Z h1 o1 "com/example/vacant_throne/vacantthrone/core/Heartbeat" "reveal" "Z" (.int (0 : Int32)) := D1 (Or.inr (ww hw 20 rfl)) (ty := .boolean) (by decide)
 have F_8 : Fld Z h1 o1 "com/example/vacant_throne/vacantthrone/core/Heartbeat" "set" "I" (.int (0 : Int32)) := D1 (Or.inr (ww hw 35 rfl)) (ty := .int) (by decide)
 have F_9 : Fld Z h1 o1 "com/example/vacant_throne/vacantthrone/core/Heartbeat" "sender" "J" (.long (0 : Int64)) := D1 (Or.inr (ww hw 39 rfl)) (ty := .long) (by decide)
 have F_10 : Fld Z h1 o1 "com/example/vacant_throne/vacantthrone/core/Heartbeat" "priority" "I" (.int (0 : Int32)) := D1 (Or.inr (ww hw 42 rfl)) (ty := .int) (by decide)
 have F_11 : Fld Z h1 o1 "com/example/vacant_throne/vacantthrone/core/Heartbeat" "periodMs" "I" (.int (0 : Int32)) := D1 (Or.inr (ww hw 45 rfl)) (ty := .int) (by decide)
 have F_12 : Fld Z h1 o1 "com/example/vacant_throne/vacantthrone/core/Heartbeat" "handOverTarget" "J" (.long (0 : Int64)) := D1 (Or.inr (ww hw 48 rfl)) (ty := .long) (by decide)
 have F_13 : Fld Z h1 o1 "com/example/vacant_throne/vacantthrone/core/Heartbeat" "incarnation" "J" (.long (0 : Int64)) := D1 (Or.inr (ww hw 50 rfl)) (ty := .long) (by decide)
 have F_14 : Fld Z h1 o1 "com/example/vacant_throne/vacantthrone/core/Heartbeat" "sequence" "J" (.long (0 : Int64)) := D1 (Or.inr (ww hw 53 rfl)) (ty := .long) (by decide)
 have p15 : ∀ t, St p e below T1 (mkF m 3 #[.val (.ref b0)] [(.ref o1)]) t → S0 t := fun t k => p0 t (st1 t k)
 have p16 : ∀ t, St p e below T1 (mkF m 6 #[.val (.ref b0)] [(.int (0 : Int32)), (.ref b0), (.ref o1), (.ref o1)]) t → S0 t := fun t k => p15 t (by
   refine XS.dup X1.here hx rfl (hb hby d1_3) rfl rfl ?_
   refine XS.aloadN X1.here hx rfl (hb hby d1_4) rfl rfl ?_
   refine XT.iconstV X1.here hx rfl (0 : Int32) (hb hby d1_5) (by decide) ?_
   exact k)
 obtain ⟨cl17, Ar17, -, Sz17, -, Hs17, -⟩ := id V_2
 have hin17 : ¬ ((0 : Int32) < 0 ∨ cl17.slots.size ≤ (0 : Int32).toNatClampNeg) := inb_of Sz17 ⟨by decide, by decide⟩
 have hat17 : cl17.slots[(0 : Int32).toNatClampNeg]? = some (.long j0) := Hs17.at hin17 rfl
 have p18 : ∀ t, St p e below T1 (mkF m 7 #[.val (.ref b0)] [(.long j0), (.ref o1), (.ref o1)]) t → S0 t := fun t k => p16 t (by
   refine X1.laload hx (j := (0 : Int32)) (v := (.long j0)) (by rw [e1]; exact Ar17.1) (State.isArrayOf_alike hZ.alike Ar17.2.1) Ar17.2.2 hin17 hat17 (g := (mkF m 6 #[.val (.ref b0)] [(.int (0 : Int32)), (.ref b0), (.ref o1), (.ref o1)])) rfl rfl (hb hby d1_6) _ ?_
   exact k)
 obtain ⟨w19, Tj20, Lj20, Xj20, ej20, Nj20, g21, pj20⟩ : ∃ (w19 : Int32) (Tj20 : State) (Lj20 : List Loc), Stand p l e ({ frames := 2, cells := 13, slots := 220, locals := 44 } : Room) s m #[(.ref b0)] below meth c Tj20 Lj20 1 8 ∧ Tj20.heap = h1 ∧ Fr n0 Lj20 ∧ w19 = (own_nz j0) ∧ ∀ t, St p e below Tj20 (mkF m 17 #[.val (.ref b0)] [(.int w19), (.ref o1), (.ref o1)]) t → S0 t := by
  have p22 : ∀ t, St p e below T1 (mkF m 9 #[.val (.ref b0)] [(.int (lcmpW j0 (0 : Int64))), (.ref o1), (.ref o1)]) t → S0 t := fun t k => p18 t (by
    refine XT.lconstV X1.here hx rfl (0 : Int64) (hb hby d1_7) (by decide) ?_
    refine XS.lcmp X1.here hx rfl (hb hby d1_8) rfl ?_
    exact k)
  by_cases g23 : j0 = (0 : Int64)
  ·
   have p24 : ∀ t, St p e below T1 (mkF m 17 #[.val (.ref b0)] [(.int (0 : Int32)), (.ref o1), (.ref o1)]) t → S0 t := fun t k => p22 t (by
     refine XS.ifYes X1.here hx rfl (pc0 := 9) (pc' := 16) rfl (hb hby d1_9) rfl ((if0 _ _).trans (teq ((lw_eq _ _).mpr g23)).1) (by decide) (by decide) ?_
     refine XT.iconstV X1.here hx rfl (0 : Int32) (hb hby d1_16) (by decide) ?_
     exact k)
   have q25 : (0 : Int32) = (own_nz j0) := Decidable.byContradiction fun r => ar35 g23 r
   exact ⟨(0 : Int32), _, _, X1, e1, N0, q25, p24⟩
  ·
   have p26 : ∀ t, St p e below T1 (mkF m 17 #[.val (.ref b0)] [(.int (1 : Int32)), (.ref o1), (.ref o1)]) t → S0 t := fun t k => p22 t (by
     refine XS.ifNo X1.here hx rfl (hb hby d1_9) rfl ((if0 _ _).trans (feq (mt (lw_eq _ _).mp g23)).1) ?_
     refine XT.iconstV X1.here hx rfl (1 : Int32) (hb hby d1_12) (by decide) ?_
     refine XS.goto X1.here hx rfl (pc0 := 13) (pc' := 17) rfl (hb hby d1_13) (by decide) (by decide) ?_
     exact k)
   have q27 : (1 : Int32) = (own_nz j0) := Decidable.byContradiction fun r => ar36 g23 r
   exact ⟨(1 : Int32), _, _, X1, e1, N0, q27, p26⟩
 have p28 : ∀ t, St p e below Tj20 (mkF m 17 #[.val (.ref b0)] [(.int (own_nz j0)), (.ref o1), (.ref o1)]) t → S0 t := fun t k => pj20 t (by show St p e below Tj20 (mkF m 17 #[.val (.ref b0)] [(.int w19), (.ref o1), (.ref o1)]) t; rw [g21]; exact k)
 have p29 : ∀ t, St p e below Tj20 (mkF m 19 #[.val (.ref b0)] [(.int (1 : Int32)), (.ref b0), (.int (own_nz j0)), (.ref o1), (.ref o1)]) t → S0 t := fun t k => p28 t (by
   refine XS.aloadN Xj20.here hx rfl (hb hby d1_17) rfl rfl ?_
   refine XT.iconstV Xj20.here hx rfl (1 : Int32) (hb hby d1_18) (by decide) ?_
   exact k)
 obtain ⟨cl30, Ar30, -, Sz30, -, Hs30, -⟩ := id V_2
 have hin30 : ¬ ((1 : Int32) < 0 ∨ cl30.slots.size ≤ (1 : Int32).toNatClampNeg) := inb_of Sz30 ⟨by decide, by decide⟩
 have hat30 : cl30.slots[(1 : Int32).toNatClampNeg]? = some (.long j1) := Hs30.at hin30 rfl
 have p31 : ∀ t, St p e below Tj20 (mkF m 23 #[.val (.ref b0)] [(.int (2 : Int32)), (.ref b0), (.int (j1.toInt32)), (.int (own_nz j0)), (.ref o1), (.ref o1)]) t → S0 t := fun t k => p29 t (by
   refine Xj20.laload hx (j := (1 : Int32)) (v := (.long j1)) (by rw [ej20]; exact Ar30.1) (State.isArrayOf_alike hZ.alike Ar30.2.1) Ar30.2.2 hin30 hat30 (g := (mkF m 19 #[.val (.ref b0)] [(.int (1 : Int32)), (.ref b0), (.int (own_nz j0)), (.ref o1), (.ref o1)])) rfl rfl (hb hby d1_19) _ ?_
   refine XS.l2i Xj20.here hx rfl (hb hby d1_20) rfl ?_
   refine XS.aloadN Xj20.here hx rfl (hb hby d1_21) rfl rfl ?_
   refine XT.iconstV Xj20.here hx rfl (2 : Int32) (hb hby d1_22) (by decide) ?_
   exact k)
 obtain ⟨cl32, Ar32, -, Sz32, -, Hs32, -⟩ := id V_2
 have hin32 : ¬ ((2 : Int32) < 0 ∨ cl32.slots.size ≤ (2 : Int32).toNatClampNeg) := inb_of Sz32 ⟨by decide, by decide⟩
 have hat32 : cl32.slots[(2 : Int32).toNatClampNeg]? = some (.long j2) := Hs32.at hin32 rfl
 have p33 : ∀ t, St p e below Tj20 (mkF m 26 #[.val (.ref b0)] [(.int (3 : Int32)), (.ref b0), (.long j2), (.int (j1.toInt32)), (.int (own_nz j0)), (.ref o1), (.ref o1)]) t → S0 t := fun t k => p31 t (by
   refine Xj20.laload hx (j := (2 : Int32)) (v := (.long j2)) (by rw [ej20]; exact Ar32.1) (State.isArrayOf_alike hZ.alike Ar32.2.1) Ar32.2.2 hin32 hat32 (g := (mkF m 23 #[.val (.ref b0)] [(.int (2 : Int32)), (.ref b0), (.int (j1.toInt32)), (.int (own_nz j0)), (.ref o1), (.ref o1)])) rfl rfl (hb hby d1_23) _ ?_
   refine XS.aloadN Xj20.here hx rfl (hb hby d1_24) rfl rfl ?_
   refine XT.iconstV Xj20.here hx rfl (3 : Int32) (hb hby d1_25) (by decide) ?_
   exact k)
 obtain ⟨cl34, Ar34, -, Sz34, -, Hs34, -⟩ := id V_2
 have hin34 : ¬ ((3 : Int32) < 0 ∨ cl34.slots.size ≤ (3 : Int32).toNatClampNeg) := inb_of Sz34 ⟨by decide, by decide⟩
 have hat34 : cl34.slots[(3 : Int32).toNatClampNeg]? = some (.long j3) := Hs34.at hin34 rfl
 have p35 : ∀ t, St p e below Tj20 (mkF m 30 #[.val (.ref b0)] [(.int (4 : Int32)), (.ref b0), (.int (j3.toInt32)), (.long j2), (.int (j1.toInt32)), (.int (own_nz j0)), (.ref o1), (.ref o1)]) t → S0 t := fun t k => p33 t (by
   refine Xj20.laload hx (j := (3 : Int32)) (v := (.long j3)) (by rw [ej20]; exact Ar34.1) (State.isArrayOf_alike hZ.alike Ar34.2.1) Ar34.2.2 hin34 hat34 (g := (mkF m 26 #[.val (.ref b0)] [(.int (3 : Int32)), (.ref b0), (.long j2), (.int (j1.toInt32)), (.int (own_nz j0)), (.ref o1), (.ref o1)])) rfl rfl (hb hby d1_26) _ ?_
   refine XS.l2i Xj20.here hx rfl (hb hby d1_27) rfl ?_
   refine XS.aloadN Xj20.here hx rfl (hb hby d1_28) rfl rfl ?_
   refine XT.iconstV Xj20.here hx rfl (4 : Int32) (hb hby d1_29) (by decide) ?_
   exact k)
 obtain ⟨cl36, Ar36, -, Sz36, -, Hs36, -⟩ := id V_2
 have hin36 : ¬ ((4 : Int32) < 0 ∨ cl36.slots.size ≤ (4 : Int32).toNatClampNeg) := inb_of Sz36 ⟨by decide, by decide⟩
 have hat36 : cl36.slots[(4 : Int32).toNatClampNeg]? = some (.long j4) := Hs36.at hin36 rfl
 have p37 : ∀ t, St p e below Tj20 (mkF m 34 #[.val (.ref b0)] [(.int (5 : Int32)), (.ref b0), (.int (j4.toInt32)), (.int (j3.toInt32)), (.long j2), (.int (j1.toInt32)), (.int (own_nz j0)), (.ref o1), (.ref o1)]) t → S0 t := fun t k => p35 t (by
   refine Xj20.laload hx (j := (4 : Int32)) (v := (.long j4)) (by rw [ej20]; exact Ar36.1) (State.isArrayOf_alike hZ.alike Ar36.2.1) Ar36.2.2 hin36 hat36 (g := (mkF m 30 #[.val (.ref b0)] [(.int (4 : Int32)), (.ref b0), (.int (j3.toInt32)), (.long j2), (.int (j1.toInt32)), (.int (own_nz j0)), (.ref o1), (.ref o1)])) rfl rfl (hb hby d1_30) _ ?_
   refine XS.l2i Xj20.here hx rfl (hb hby d1_31) rfl ?_
   refine XS.aloadN Xj20.here hx rfl (hb hby d1_32) rfl rfl ?_
   refine XT.iconstV Xj20.here hx rfl (5 : Int32) (hb hby d1_33) (by decide) ?_
   exact k)
 obtain ⟨cl38, Ar38, -, Sz38, -, Hs38, -⟩ := id V_2
 have hin38 : ¬ ((5 : Int32) < 0 ∨ cl38.slots.size ≤ (5 : Int32).toNatClampNeg) := inb_of Sz38 ⟨by decide, by decide⟩
 have hat38 : cl38.slots[(5 : Int32).toNatClampNeg]? = some (.long j5) := Hs38.at hin38 rfl
 have p39 : ∀ t, St p e below Tj20 (mkF m 38 #[.val (.ref b0)] [(.int (6 : Int32)), (.ref b0), (.long j5), (.int (j4.toInt32)), (.int (j3.toInt32)), (.long j2), (.int (j1.toInt32)), (.int (own_nz j0)), (.ref o1), (.ref o1)]) t → S0 t := fun t k => p37 t (by
   refine Xj20.laload hx (j := (5 : Int32)) (v := (.long j5)) (by rw [ej20]; exact Ar38.1) (State.isArrayOf_alike hZ.alike Ar38.2.1) Ar38.2.2 hin38 hat38 (g := (mkF m 34 #[.val (.ref b0)] [(.int (5 : Int32)), (.ref b0), (.int (j4.toInt32)), (.int (j3.toInt32)), (.long j2), (.int (j1.toInt32)), (.int (own_nz j0)), (.ref o1), (.ref o1)])) rfl rfl (hb hby d1_34) _ ?_
   refine XS.aloadN Xj20.here hx rfl (hb hby d1_35) rfl rfl ?_
   refine XT.bipushV Xj20.here hx rfl (6 : Int32) (hb hby d1_36) (by decide) ?_
   exact k)
 obtain ⟨cl40, Ar40, -, Sz40, -, Hs40, -⟩ := id V_2
 have hin40 : ¬ ((6 : Int32) < 0 ∨ cl40.slots.size ≤ (6 : Int32).toNatClampNeg) := inb_of Sz40 ⟨by decide, by decide⟩
 have hat40 : cl40.slots[(6 : Int32).toNatClampNeg]? = some (.long j6) := Hs40.at hin40 rfl
 have p41 : ∀ t, St p e below Tj20 (mkF m 42 #[.val (.ref b0)] [(.int (7 : Int32)), (.ref b0), (.long j6), (.long j5), (.int (j4.toInt32)), (.int (j3.toInt32)), (.long j2), (.int (j1.toInt32)), (.int (own_nz j0)), (.ref o1), (.ref o1)]) t → S0 t := fun t k => p39 t (by
   refine Xj20.laload hx (j := (6 : Int32)) (v := (.long j6)) (by rw [ej20]; exact Ar40.1) (State.isArrayOf_alike hZ.alike Ar40.2.1) Ar40.2.2 hin40 hat40 (g := (mkF m 38 #[.val (.ref b0)] [(.int (6 : Int32)), (.ref b0), (.long j5), (.int (j4.toInt32)), (.int (j3.toInt32)), (.long j2), (.int (j1.toInt32)), (.int (own_nz j0)), (.ref o1), (.ref o1)])) rfl rfl (hb hby d1_38) _ ?_
   refine XS.aloadN Xj20.here hx rfl (hb hby d1_39) rfl rfl ?_
   refine XT.bipushV Xj20.here hx rfl (7 : Int32) (hb hby d1_40) (by decide) ?_
   exact k)
 obtain ⟨cl42, Ar42, -, Sz42, -, Hs42, -⟩ := id V_2
 have hin42 : ¬ ((7 : Int32) < 0 ∨ cl42.slots.size ≤ (7 : Int32).toNatClampNeg) := inb_of Sz42 ⟨by decide, by decide⟩
 have hat42 : cl42.slots[(7 : Int32).toNatClampNeg]? = some (.long j7) := Hs42.at hin42 rfl
 have p43 : ∀ t, St p e below Tj20 (mkF m 43 #[.val (.ref b0)] [(.long j7), (.long j6), (.long j5), (.int (j4.toInt32)), (.int (j3.toInt32)), (.long j2), (.int (j1.toInt32)), (.int (own_nz j0)), (.ref o1), (.ref o1)]) t → S0 t := fun t k => p41 t (by
   refine Xj20.laload hx (j := (7 : Int32)) (v := (.long j7)) (by rw [ej20]; exact Ar42.1) (State.isArrayOf_alike hZ.alike Ar42.2.1) Ar42.2.2 hin42 hat42 (g := (mkF m 42 #[.val (.ref b0)] [(.int (7 : Int32)), (.ref b0), (.long j6), (.long j5), (.int (j4.toInt32)), (.int (j3.toInt32)), (.long j2), (.int (j1.toInt32)), (.int (own_nz j0)), (.ref o1), (.ref o1)])) rfl rfl (hb hby d1_42) _ ?_
   exact k)
 obtain ⟨_, _, ⟨Tc44, Lc44, kc44, nc44⟩, -, Xrc44, hSrc44, hgrc44, ⟨Lcc44, hQc44, lc44, yc44, zc44⟩, stc44⟩ := Xj20.specialBackS hx (y := M1) rfl hown (mvT hZ (ww hw 13 rfl)) (mvT hZ (ww hw 14 rfl)) (mvT hZ (ww hw 15 rfl)) (by decide) (backOfS (W := 1) (rm2_1 l Z a0 hw [] a_cache clC (own_nz j0) (j1.toInt32) j2 (j3.toInt32) (j4.toInt32) j5 j6 j7 o1 h1 n0 O3 HE' gb_o1 E_6 F_7 F_8 F_9 F_10 F_11 F_12 F_13 F_14 hp1 hp2 hp3 hp4 hp5 hp6 hp7 hp8 hp9 hp10 hp11 hp12) hZ (ww hw 15 rfl) (ww hw 12 rfl) (by decide) (by decide)) (g := (mkF m 43 #[.val (.ref b0)] [(.long j7), (.long j6), (.long j5), (.int (j4.toInt32)), (.int (j3.toInt32)), (.long j2), (.int (j1.toInt32)), (.int (own_nz j0)), (.ref o1), (.ref o1)])) rfl (by rw [hml]; rfl) (Steps.refl _) (a := o1) (argsL := [(.int (own_nz j0)), (.int (j1.toInt32)), (.long j2), (.int (j3.toInt32)), (.int (j4.toInt32)), (.long j5), (.long j6), (.long j7)]) (rest := [(.ref o1)]) (lenOf pd1 rfl) rfl (by show 2 * 0 + _ ≤ _; exact Nat.le_of_eq rfl) (hb hby d1_43) (fun _ _ => ⟨rfl, ej20, (by decide : 1 + 12 ≤ _), (by decide : 8 + 212 ≤ _)⟩)
 dsimp only [Pt.U, Pt.locs, Pt.cells, Pt.slots] at Xrc44 hSrc44 hgrc44 lc44 yc44 zc44 stc44 hQc44
 subst lc44 yc44 zc44
 obtain ⟨Xc44, hSc44, hZ, hown⟩ := rebS hS0 (by rw [ej20]; exact hk5) Xrc44 hSrc44 hgrc44 hZ hown
 obtain ⟨Nqc44, hAc44⟩ := hQc44
 have Nc44 := Fr.app Nj20 Nqc44
 obtain ⟨rfl, Kcc44, f_45, f_46, f_47, f_48, f_49, f_50, f_51, f_52, f_53⟩ := hAc44
 have V_54 := V_2.keep Kcc44 (ninS ne_b0_o1 nin0)
 have O55 := O3.keep Kcc44 (allS gb_o1 all0)
 have K56 := Keep.trans K4 Kcc44 (allS (Or.inr sz_o1) all0)
 have p57 : ∀ t, St p e below Tc44 (mkF m 46 #[.val (.ref b0)] [(.ref o1)]) t → S0 t := fun t k => p43 t (stc44.trans k)
 obtain ⟨fs, hr, hrun, hended, hE1, hE2, hE3, hE4⟩ := Xc44.leaveW hSc44 (Nat.le_refl _) (v := some (.ref o1)) (fun h => by rw [Bd.returns] at h; cases h)
 refine ⟨_, _, p57 _ ?_, hrun, hended, _, _, rfl, ?_, hE1, hE2, hE3, hE4.mono (by decide) (by decide)⟩
 · exact retOut Xc44 hx Bd.returns rfl (Or.inr (Or.inr (Or.inr (Or.inr ⟨rfl, rfl, rfl⟩)))) (hb hby d1_46) hr
 · show Q1_0 Z a_cache clC j0 j1 j2 j3 j4 j5 j6 j7 b0 k1 h0 n0 _ Tc44.heap _
   exact ⟨Nc44, ⟨o1, rfl, K56, gb_o1, sz_o1, f_45, f_46, f_47, f_48, f_49, f_50, f_51, f_52, f_53⟩⟩
theorem ar37 {y0 : Int64} (h0 : ¬ (y0 < (0 : Int64))) (h1 : ¬ ((65535 : Int64) < y0)) (h2 : ¬ ((4294967295 : Int64) < y0)) (h3 : ((y0.toInt32).toInt64) < (0 : Int64)) : False := by
  have q1_ := nltJ h0
  have q2_ := nltJ h1
  have q3_ := nltJ h2
  have q4_ := ltJ h3
  have l5_ := rng64 y0
  have l6_ := lJ0
  have l7_ := lJ65535
  have l8_ := lJ4294967295
  have l9_ := c_l2i y0
  have l9b_ := rng32 (y0.toInt32)
  have l10_ := c_i2l (y0.toInt32)
  omega
theorem ar38 {y0 : Int64} (h0 : ¬ (y0 < (0 : Int64))) (h1 : ¬ ((65535 : Int64) < y0)) (h2 : ¬ ((4294967295 : Int64) < y0)) (h3 : ¬ (((y0.toInt32).toInt64) < (0 : Int64))) (h4 : (65535 : Int64) < ((y0.toInt32).toInt64)) : False := by
  have q1_ := nltJ h0
  have q2_ := nltJ h1
  have q3_ := nltJ h2
  have q4_ := nltJ h3
  have q5_ := ltJ h4
  have l6_ := rng64 y0
  have l7_ := lJ0
  have l8_ := lJ65535
  have l9_ := lJ4294967295
  have l10_ := c_l2i y0
  have l10b_ := rng32 (y0.toInt32)
  have l11_ := c_i2l (y0.toInt32)
  omega
theorem pd2 : parseMethodDescriptor "([J)Lcom/example/vacant_throne/vacantthrone/core/Heartbeat;" = some ⟨[(.array .long)], some (.object "com/example/vacant_throne/vacantthrone/core/Heartbeat")⟩ := by decide +kernel
theorem ar39 {x0 : Int32} {y1 : Int64} (h0 : x0 = (1 : Int32)) (h1 : ¬ (y1 < (own_lo x0))) (h2 : ¬ ((own_hi x0) < y1)) (h3 : ((y1.toInt32).toInt64) < (0 : Int64)) : False := by
  subst h0
  have q1_ := nltJ h1
  have q2_ := nltJ h2
  have q3_ := ltJ h3
  have l4_ := rng64 y1
  have l5_ := lI1
  have l6_ : (own_lo (1 : Int32)).toInt = 0 := by decide
  have l7_ : (own_hi (1 : Int32)).toInt = 65535 := by decide
  have l8_ := c_l2i y1
  have l8b_ := rng32 (y1.toInt32)
  have l9_ := c_i2l (y1.toInt32)
  have l10_ := lJ0
  omega
theorem ar40 {x0 : Int32} {y1 : Int64} (h0 : x0 = (1 : Int32)) (h1 : ¬ (y1 < (own_lo x0))) (h2 : ¬ ((own_hi x0) < y1)) (h3 : ¬ (((y1.toInt32).toInt64) < (0 : Int64))) (h4 : (65535 : Int64) < ((y1.toInt32).toInt64)) : False := by
  subst h0
  have q1_ := nltJ h1
  have q2_ := nltJ h2
  have q3_ := nltJ h3
  have q4_ := ltJ h4
  have l5_ := rng64 y1
  have l6_ := lI1
  have l7_ : (own_lo (1 : Int32)).toInt = 0 := by decide
  have l8_ : (own_hi (1 : Int32)).toInt = 65535 := by decide
  have l9_ := c_l2i y1
  have l9b_ := rng32 (y1.toInt32)
  have l10_ := c_i2l (y1.toInt32)
  have l11_ := lJ0
  have l12_ := lJ65535
  omega
theorem ar41 {x0 : Int32} {y1 : Int64} (h0 : x0 = (2 : Int32)) (h1 : ¬ (y1 < (own_lo x0))) (h2 : ¬ ((own_hi x0) < y1)) (h3 : y1 < (1 : Int64)) : False := by
  subst h0
  have q1_ := nltJ h1
  have q2_ := nltJ h2
  have q3_ := ltJ h3
  have l4_ := rng64 y1
  have l5_ := lI2
  have l6_ : (own_lo (2 : Int32)).toInt = 1 := by decide
  have l7_ : (own_hi (2 : Int32)).toInt = 4294967295 := by decide
  have l8_ := lJ1
  omega
theorem ar42 {x0 : Int32} {y1 : Int64} (h0 : x0 = (2 : Int32)) (h1 : ¬ (y1 < (own_lo x0))) (h2 : ¬ ((own_hi x0) < y1)) (h3 : ¬ (y1 < (1 : Int64))) (h4 : (4294967295 : Int64) < y1) : False := by
  subst h0
  have q1_ := nltJ h1
  have q2_ := nltJ h2
  have q3_ := nltJ h3
  have q4_ := ltJ h4
  have l5_ := rng64 y1
  have l6_ := lI2
  have l7_ : (own_lo (2 : Int32)).toInt = 1 := by decide
  have l8_ : (own_hi (2 : Int32)).toInt = 4294967295 := by decide
  have l9_ := lJ1
  have l10_ := lJ4294967295
  omega
theorem ar43 {x0 : Int32} {y1 : Int64} (h0 : x0 = (3 : Int32)) (h1 : ¬ (y1 < (own_lo x0))) (h2 : ¬ ((own_hi x0) < y1)) (h3 : ((y1.toInt32).toInt64) < (0 : Int64)) : False := by
  subst h0
  have q1_ := nltJ h1
  have q2_ := nltJ h2
  have q3_ := ltJ h3
  have l4_ := rng64 y1
  have l5_ := lI3
  have l6_ : (own_lo (3 : Int32)).toInt = 0 := by decide
  have l7_ : (own_hi (3 : Int32)).toInt = 65535 := by decide
  have l8_ := c_l2i y1
  have l8b_ := rng32 (y1.toInt32)
  have l9_ := c_i2l (y1.toInt32)
  have l10_ := lJ0
  omega
theorem ar44 {x0 : Int32} {y1 : Int64} (h0 : x0 = (3 : Int32)) (h1 : ¬ (y1 < (own_lo x0))) (h2 : ¬ ((own_hi x0) < y1)) (h3 : ¬ (((y1.toInt32).toInt64) < (0 : Int64))) (h4 : (65535 : Int64) < ((y1.toInt32).toInt64)) : False := by
  subst h0
  have q1_ := nltJ h1
  have q2_ := nltJ h2
  have q3_ := nltJ h3
  have q4_ := ltJ h4
  have l5_ := rng64 y1
  have l6_ := lI3
  have l7_ : (own_lo (3 : Int32)).toInt = 0 := by decide
  have l8_ : (own_hi (3 : Int32)).toInt = 65535 := by decide
  have l9_ := c_l2i y1
  have l9b_ := rng32 (y1.toInt32)
  have l10_ := c_i2l (y1.toInt32)
  have l11_ := lJ0
  have l12_ := lJ65535
  omega
theorem ar45 {x0 : Int32} {y1 : Int64} (h0 : x0 = (4 : Int32)) (h1 : ¬ (y1 < (own_lo x0))) (h2 : ¬ ((own_hi x0) < y1)) (h3 : ((y1.toInt32).toInt64) < (0 : Int64)) : False := by
  subst h0
  have q1_ := nltJ h1
  have q2_ := nltJ h2
  have q3_ := ltJ h3
  have l4_ := rng64 y1
  have l5_ := lI4
  have l6_ : (own_lo (4 : Int32)).toInt = 0 := by decide
  have l7_ : (own_hi (4 : Int32)).toInt = 65535 := by decide
  have l8_ := c_l2i y1
  have l8b_ := rng32 (y1.toInt32)
  have l9_ := c_i2l (y1.toInt32)
  have l10_ := lJ0
  omega
theorem ar46 {x0 : Int32} {y1 : Int64} (h0 : x0 = (4 : Int32)) (h1 : ¬ (y1 < (own_lo x0))) (h2 : ¬ ((own_hi x0) < y1)) (h3 : ¬ (((y1.toInt32).toInt64) < (0 : Int64))) (h4 : (65535 : Int64) < ((y1.toInt32).toInt64)) : False := by
  subst h0
  have q1_ := nltJ h1
  have q2_ := nltJ h2
  have q3_ := nltJ h3
  have q4_ := ltJ h4
  have l5_ := rng64 y1
  have l6_ := lI4
  have l7_ : (own_lo (4 : Int32)).toInt = 0 := by decide
  have l8_ : (own_hi (4 : Int32)).toInt = 65535 := by decide
  have l9_ := c_l2i y1
  have l9b_ := rng32 (y1.toInt32)
  have l10_ := c_i2l (y1.toInt32)
  have l11_ := lJ0
  have l12_ := lJ65535
  omega
theorem ar47 {x0 : Int32} {y1 : Int64} (h0 : x0 = (5 : Int32)) (h1 : ¬ (y1 < (own_lo x0))) (h2 : ¬ ((own_hi x0) < y1)) (h3 : y1 < (0 : Int64)) : False := by
  subst h0
  have q1_ := nltJ h1
  have q2_ := nltJ h2
  have q3_ := ltJ h3
  have l4_ := rng64 y1
  have l5_ := lI5
  have l6_ : (own_lo (5 : Int32)).toInt = 0 := by decide
  have l7_ : (own_hi (5 : Int32)).toInt = 4294967295 := by decide
  have l8_ := lJ0
  omega
theorem ar48 {x0 : Int32} {y1 : Int64} (h0 : x0 = (5 : Int32)) (h1 : ¬ (y1 < (own_lo x0))) (h2 : ¬ ((own_hi x0) < y1)) (h3 : ¬ (y1 < (0 : Int64))) (h4 : (4294967295 : Int64) < y1) : False := by
  subst h0
  have q1_ := nltJ h1
  have q2_ := nltJ h2
  have q3_ := nltJ h3
  have q4_ := ltJ h4
  have l5_ := rng64 y1
  have l6_ := lI5
  have l7_ : (own_lo (5 : Int32)).toInt = 0 := by decide
  have l8_ : (own_hi (5 : Int32)).toInt = 4294967295 := by decide
  have l9_ := lJ0
  have l10_ := lJ4294967295
  omega
theorem ar49 {x0 : Int32} {y1 : Int64} (h0 : x0 = (7 : Int32)) (h1 : ¬ (y1 < (own_lo x0))) (h2 : ¬ ((own_hi x0) < y1)) (h3 : y1 < (0 : Int64)) : False := by
  subst h0
  have q1_ := nltJ h1
  have q2_ := nltJ h2
  have q3_ := ltJ h3
  have l4_ := rng64 y1
  have l5_ := lI7
  have l6_ : (own_lo (7 : Int32)).toInt = 0 := by decide
  have l7_ : (own_hi (7 : Int32)).toInt = 4294967295 := by decide
  have l8_ := lJ0
  omega
theorem ar50 {x0 : Int32} {y1 : Int64} (h0 : x0 = (7 : Int32)) (h1 : ¬ (y1 < (own_lo x0))) (h2 : ¬ ((own_hi x0) < y1)) (h3 : ¬ (y1 < (0 : Int64))) (h4 : (4294967295 : Int64) < y1) : False := by
  subst h0
  have q1_ := nltJ h1
  have q2_ := nltJ h2
  have q3_ := nltJ h3
  have q4_ := ltJ h4
  have l5_ := rng64 y1
  have l6_ := lI7
  have l7_ : (own_lo (7 : Int32)).toInt = 0 := by decide
  have l8_ : (own_hi (7 : Int32)).toInt = 4294967295 := by decide
  have l9_ := lJ0
  have l10_ := lJ4294967295
  omega
theorem ar51 {x0 : Int32} (h0 : ¬ (x0 < (0 : Int32))) (h1 : ¬ ((8 : Int32) < x0)) (h2 : ¬ (x0 = (0 : Int32))) (h3 : ¬ (x0 = (1 : Int32))) (h4 : ¬ (x0 = (2 : Int32))) (h5 : ¬ (x0 = (3 : Int32))) (h6 : ¬ (x0 = (4 : Int32))) (h7 : ¬ (x0 = (5 : Int32))) (h8 : ¬ (x0 = (6 : Int32))) (h9 : ¬ (x0 = (7 : Int32))) (h10 : ¬ (x0 = (8 : Int32))) : False := by
  have q1_ := nltI h0
  have q2_ := nltI h1
  have q3_ := neI h2
  have q4_ := neI h3
  have q5_ := neI h4
  have q6_ := neI h5
  have q7_ := neI h6
  have q8_ := neI h7
  have q9_ := neI h8
  have q10_ := neI h9
  have q11_ := neI h10
  have l12_ := rng32 x0
  have l13_ := lI0
  have l14_ := lI8
  have l15_ := lI1
  have l16_ := lI2
  have l17_ := lI3
  have l18_ := lI4
  have l19_ := lI5
  have l20_ := lI6
  have l21_ := lI7
  omega
theorem ar52 {x0 : Int32} {y1 : Int64} {y2 : Int64} (h0 : x0 = (0 : Int32)) (h1 : ¬ (y1 < (0 : Int64))) (h2 : ¬ ((1 : Int64) < y1)) (h3 : ¬ (y2 < (own_lo x0))) (h4 : ¬ ((own_hi x0) < y2)) (h5 : y2 = y1) (h6 : ¬ (((own_nz y1) &&& (1 : Int32)) = ((own_nz y2) &&& (1 : Int32)))) : False := by
  subst h0
  have q1_ := nltJ h1
  have q2_ := nltJ h2
  have q3_ := nltJ h3
  have q4_ := nltJ h4
  have q5_ := eqJ h5
  have q6_ := neI h6
  have l7_ := rng64 y1
  have l8_ := lJ0
  have l9_ := lJ1
  have l10_ := rng64 y2
  have l11_ := lI0
  have l12_ : (own_lo (0 : Int32)).toInt = 0 := by decide
  have l13_ : (own_hi (0 : Int32)).toInt = 1 := by decide
  have l14_ := own_c_nz y1
  have l15_ := lI1
  have l16_ : ((own_nz y1) &&& (1 : Int32)).toInt = (own_nz y1).toInt % 2 := c_mask (own_nz y1) (1 : Int32) 1 (by decide) (by decide)
  have l17_ := own_c_nz y2
  have l18_ : ((own_nz y2) &&& (1 : Int32)).toInt = (own_nz y2).toInt % 2 := c_mask (own_nz y2) (1 : Int32) 1 (by decide) (by decide)
  omega
theorem ar53 {x0 : Int32} {y1 : Int64} {y2 : Int64} (h0 : x0 = (0 : Int32)) (h1 : ¬ (y1 < (0 : Int64))) (h2 : ¬ ((1 : Int64) < y1)) (h3 : ¬ (y2 < (own_lo x0))) (h4 : ¬ ((own_hi x0) < y2)) (h5 : y2 = y1) (h6 : ¬ (((own_nz y2) &&& (1 : Int32)) = ((own_nz y1) &&& (1 : Int32)))) : False := by
  subst h0
  have q1_ := nltJ h1
  have q2_ := nltJ h2
  have q3_ := nltJ h3
  have q4_ := nltJ h4
  have q5_ := eqJ h5
  have q6_ := neI h6
  have l7_ := rng64 y1
  have l8_ := lJ0
  have l9_ := lJ1
  have l10_ := rng64 y2
  have l11_ := lI0
  have l12_ : (own_lo (0 : Int32)).toInt = 0 := by decide
  have l13_ : (own_hi (0 : Int32)).toInt = 1 := by decide
  have l14_ := own_c_nz y2
  have l15_ := lI1
  have l16_ : ((own_nz y2) &&& (1 : Int32)).toInt = (own_nz y2).toInt % 2 := c_mask (own_nz y2) (1 : Int32) 1 (by decide) (by decide)
  have l17_ := own_c_nz y1
  have l18_ : ((own_nz y1) &&& (1 : Int32)).toInt = (own_nz y1).toInt % 2 := c_mask (own_nz y1) (1 : Int32) 1 (by decide) (by decide)
  omega
theorem ar54 {x0 : Int32} {y1 : Int64} {y2 : Int64} (h0 : x0 = (0 : Int32)) (h1 : ¬ (y1 < (0 : Int64))) (h2 : ¬ ((1 : Int64) < y1)) (h3 : ¬ (y2 < (own_lo x0))) (h4 : ¬ ((own_hi x0) < y2)) (h5 : ¬ (y2 = y1)) (h6 : ((own_nz y1) &&& (1 : Int32)) = ((own_nz y2) &&& (1 : Int32))) : False := by
  subst h0
  have q1_ := nltJ h1
  have q2_ := nltJ h2
  have q3_ := nltJ h3
  have q4_ := nltJ h4
  have q5_ := neJ h5
  have q6_ := eqI h6
  have l7_ := rng64 y1
  have l8_ := lJ0
  have l9_ := lJ1
  have l10_ := rng64 y2
  have l11_ := lI0
  have l12_ : (own_lo (0 : Int32)).toInt = 0 := by decide
  have l13_ : (own_hi (0 : Int32)).toInt = 1 := by decide
  have l14_ := own_c_nz y1
  have l15_ := lI1
  have l16_ : ((own_nz y1) &&& (1 : Int32)).toInt = (own_nz y1).toInt % 2 := c_mask (own_nz y1) (1 : Int32) 1 (by decide) (by decide)
  have l17_ := own_c_nz y2
  have l18_ : ((own_nz y2) &&& (1 : Int32)).toInt = (own_nz y2).toInt % 2 := c_mask (own_nz y2) (1 : Int32) 1 (by decide) (by decide)
  omega
theorem ar55 {x0 : Int32} {y1 : Int64} {y2 : Int64} (h0 : x0 = (0 : Int32)) (h1 : ¬ (y1 < (0 : Int64))) (h2 : ¬ ((1 : Int64) < y1)) (h3 : ¬ (y2 < (own_lo x0))) (h4 : ¬ ((own_hi x0) < y2)) (h5 : ¬ (y2 = y1)) (h6 : ((own_nz y2) &&& (1 : Int32)) = ((own_nz y1) &&& (1 : Int32))) : False := by
  subst h0
  have q1_ := nltJ h1
  have q2_ := nltJ h2
  have q3_ := nltJ h3
  have q4_ := nltJ h4
  have q5_ := neJ h5
  have q6_ := eqI h6
  have l7_ := rng64 y1
  have l8_ := lJ0
  have l9_ := lJ1
  have l10_ := rng64 y2
  have l11_ := lI0
  have l12_ : (own_lo (0 : Int32)).toInt = 0 := by decide
  have l13_ : (own_hi (0 : Int32)).toInt = 1 := by decide
  have l14_ := own_c_nz y2
  have l15_ := lI1
  have l16_ : ((own_nz y2) &&& (1 : Int32)).toInt = (own_nz y2).toInt % 2 := c_mask (own_nz y2) (1 : Int32) 1 (by decide) (by decide)
  have l17_ := own_c_nz y1
  have l18_ : ((own_nz y1) &&& (1 : Int32)).toInt = (own_nz y1).toInt % 2 := c_mask (own_nz y1) (1 : Int32) 1 (by decide) (by decide)
  omega
theorem ar56 {x0 : Int32} {y1 : Int64} {y2 : Int64} (h0 : x0 = (1 : Int32)) (h1 : ¬ (y1 < (0 : Int64))) (h2 : ¬ ((65535 : Int64) < y1)) (h3 : ¬ ((4294967295 : Int64) < y1)) (h4 : ¬ (y2 < (own_lo x0))) (h5 : ¬ ((own_hi x0) < y2)) (h6 : ¬ (((y1.toInt32).toInt64) < (0 : Int64))) (h7 : ¬ ((65535 : Int64) < ((y1.toInt32).toInt64))) (h8 : ¬ (((y2.toInt32).toInt64) < (0 : Int64))) (h9 : ¬ ((65535 : Int64) < ((y2.toInt32).toInt64))) (h10 : y2 = y1) (h11 : ¬ ((((y1.toInt32).toInt64).toInt32) = (((y2.toInt32).toInt64).toInt32))) : False := by
  subst h0
  have q1_ := nltJ h1
  have q2_ := nltJ h2
  have q3_ := nltJ h3
  have q4_ := nltJ h4
  have q5_ := nltJ h5
  have q6_ := nltJ h6
  have q7_ := nltJ h7
  have q8_ := nltJ h8
  have q9_ := nltJ h9
  have q10_ := eqJ h10
  have q11_ := neI h11
  have l12_ := rng64 y1
  have l13_ := lJ0
  have l14_ := lJ65535
  have l15_ := lJ4294967295
  have l16_ := rng64 y2
  have l17_ := lI1
  have l18_ : (own_lo (1 : Int32)).toInt = 0 := by decide
  have l19_ : (own_hi (1 : Int32)).toInt = 65535 := by decide
  have l20_ := c_l2i y1
  have l20b_ := rng32 (y1.toInt32)
  have l21_ := c_i2l (y1.toInt32)
  have l22_ := c_l2i y2
  have l22b_ := rng32 (y2.toInt32)
  have l23_ := c_i2l (y2.toInt32)
  have l24_ := c_l2i ((y1.toInt32).toInt64)
  have l24b_ := rng32 (((y1.toInt32).toInt64).toInt32)
  have l25_ := c_l2i ((y2.toInt32).toInt64)
  have l25b_ := rng32 (((y2.toInt32).toInt64).toInt32)
  omega
theorem ar57 {x0 : Int32} {y1 : Int64} {y2 : Int64} (h0 : x0 = (1 : Int32)) (h1 : ¬ (y1 < (0 : Int64))) (h2 : ¬ ((65535 : Int64) < y1)) (h3 : ¬ ((4294967295 : Int64) < y1)) (h4 : ¬ (y2 < (own_lo x0))) (h5 : ¬ ((own_hi x0) < y2)) (h6 : ¬ (((y1.toInt32).toInt64) < (0 : Int64))) (h7 : ¬ ((65535 : Int64) < ((y1.toInt32).toInt64))) (h8 : ¬ (((y2.toInt32).toInt64) < (0 : Int64))) (h9 : ¬ ((65535 : Int64) < ((y2.toInt32).toInt64))) (h10 : y2 = y1) (h11 : ¬ ((((y2.toInt32).toInt64).toInt32) = (((y1.toInt32).toInt64).toInt32))) : False := by
  subst h0
  have q1_ := nltJ h1
  have q2_ := nltJ h2
  have q3_ := nltJ h3
  have q4_ := nltJ h4
  have q5_ := nltJ h5
  have q6_ := nltJ h6
  have q7_ := nltJ h7
  have q8_ := nltJ h8
  have q9_ := nltJ h9
  have q10_ := eqJ h10
  have q11_ := neI h11
  have l12_ := rng64 y1
  have l13_ := lJ0
  have l14_ := lJ65535
  have l15_ := lJ4294967295
  have l16_ := rng64 y2
  have l17_ := lI1
  have l18_ : (own_lo (1 : Int32)).toInt = 0 := by decide
  have l19_ : (own_hi (1 : Int32)).toInt = 65535 := by decide
  have l20_ := c_l2i y1
  have l20b_ := rng32 (y1.toInt32)
  have l21_ := c_i2l (y1.toInt32)
  have l22_ := c_l2i y2
  have l22b_ := rng32 (y2.toInt32)
  have l23_ := c_i2l (y2.toInt32)
  have l24_ := c_l2i ((y2.toInt32).toInt64)
  have l24b_ := rng32 (((y2.toInt32).toInt64).toInt32)
  have l25_ := c_l2i ((y1.toInt32).toInt64)
  have l25b_ := rng32 (((y1.toInt32).toInt64).toInt32)
  omega
theorem ar58 {x0 : Int32} {y1 : Int64} {y2 : Int64} (h0 : x0 = (1 : Int32)) (h1 : ¬ (y1 < (0 : Int64))) (h2 : ¬ ((65535 : Int64) < y1)) (h3 : ¬ ((4294967295 : Int64) < y1)) (h4 : ¬ (y2 < (own_lo x0))) (h5 : ¬ ((own_hi x0) < y2)) (h6 : ¬ (((y1.toInt32).toInt64) < (0 : Int64))) (h7 : ¬ ((65535 : Int64) < ((y1.toInt32).toInt64))) (h8 : ¬ (((y2.toInt32).toInt64) < (0 : Int64))) (h9 : ¬ ((65535 : Int64) < ((y2.toInt32).toInt64))) (h10 : ¬ (y2 = y1)) (h11 : (((y1.toInt32).toInt64).toInt32) = (((y2.toInt32).toInt64).toInt32)) : False := by
  subst h0
  have q1_ := nltJ h1
  have q2_ := nltJ h2
  have q3_ := nltJ h3
  have q4_ := nltJ h4
  have q5_ := nltJ h5
  have q6_ := nltJ h6
  have q7_ := nltJ h7
  have q8_ := nltJ h8
  have q9_ := nltJ h9
  have q10_ := neJ h10
  have q11_ := eqI h11
  have l12_ := rng64 y1
  have l13_ := lJ0
  have l14_ := lJ65535
  have l15_ := lJ4294967295
  have l16_ := rng64 y2
  have l17_ := lI1
  have l18_ : (own_lo (1 : Int32)).toInt = 0 := by decide
  have l19_ : (own_hi (1 : Int32)).toInt = 65535 := by decide
  have l20_ := c_l2i y1
  have l20b_ := rng32 (y1.toInt32)
  have l21_ := c_i2l (y1.toInt32)
  have l22_ := c_l2i y2
  have l22b_ := rng32 (y2.toInt32)
  have l23_ := c_i2l (y2.toInt32)
  have l24_ := c_l2i ((y1.toInt32).toInt64)
  have l24b_ := rng32 (((y1.toInt32).toInt64).toInt32)
  have l25_ := c_l2i ((y2.toInt32).toInt64)
  have l25b_ := rng32 (((y2.toInt32).toInt64).toInt32)
  omega
theorem ar59 {x0 : Int32} {y1 : Int64} {y2 : Int64} (h0 : x0 = (1 : Int32)) (h1 : ¬ (y1 < (0 : Int64))) (h2 : ¬ ((65535 : Int64) < y1)) (h3 : ¬ ((4294967295 : Int64) < y1)) (h4 : ¬ (y2 < (own_lo x0))) (h5 : ¬ ((own_hi x0) < y2)) (h6 : ¬ (((y1.toInt32).toInt64) < (0 : Int64))) (h7 : ¬ ((65535 : Int64) < ((y1.toInt32).toInt64))) (h8 : ¬ (((y2.toInt32).toInt64) < (0 : Int64))) (h9 : ¬ ((65535 : Int64) < ((y2.toInt32).toInt64))) (h10 : ¬ (y2 = y1)) (h11 : (((y2.toInt32).toInt64).toInt32) = (((y1.toInt32).toInt64).toInt32)) : False := by
  subst h0
  have q1_ := nltJ h1
  have q2_ := nltJ h2
  have q3_ := nltJ h3
  have q4_ := nltJ h4
  have q5_ := nltJ h5
  have q6_ := nltJ h6
  have q7_ := nltJ h7
  have q8_ := nltJ h8
  have q9_ := nltJ h9
  have q10_ := neJ h10
  have q11_ := eqI h11
  have l12_ := rng64 y1
  have l13_ := lJ0
  have l14_ := lJ65535
  have l15_ := lJ4294967295
  have l16_ := rng64 y2
  have l17_ := lI1
  have l18_ : (own_lo (1 : Int32)).toInt = 0 := by decide
  have l19_ : (own_hi (1 : Int32)).toInt = 65535 := by decide
  have l20_ := c_l2i y1
  have l20b_ := rng32 (y1.toInt32)
  have l21_ := c_i2l (y1.toInt32)
  have l22_ := c_l2i y2
  have l22b_ := rng32 (y2.toInt32)
  have l23_ := c_i2l (y2.toInt32)
  have l24_ := c_l2i ((y2.toInt32).toInt64)
  have l24b_ := rng32 (((y2.toInt32).toInt64).toInt32)
  have l25_ := c_l2i ((y1.toInt32).toInt64)
  have l25b_ := rng32 (((y1.toInt32).toInt64).toInt32)
  omega
theorem ar60 {x0 : Int32} {y1 : Int64} {y2 : Int64} (h0 : x0 = (2 : Int32)) (h1 : ¬ (y1 < (1 : Int64))) (h2 : ¬ ((4294967295 : Int64) < y1)) (h3 : ¬ (y2 < (own_lo x0))) (h4 : ¬ ((own_hi x0) < y2)) (h5 : ¬ (y2 < (1 : Int64))) (h6 : ¬ ((4294967295 : Int64) < y2)) (h7 : y2 = y1) (h8 : ¬ (y1 = y2)) : False := by
  subst h0
  have q1_ := nltJ h1
  have q2_ := nltJ h2
  have q3_ := nltJ h3
  have q4_ := nltJ h4
  have q5_ := nltJ h5
  have q6_ := nltJ h6
  have q7_ := eqJ h7
  have q8_ := neJ h8
  have l9_ := rng64 y1
  have l10_ := lJ1
  have l11_ := lJ4294967295
  have l12_ := rng64 y2
  have l13_ := lI2
  have l14_ : (own_lo (2 : Int32)).toInt = 1 := by decide
  have l15_ : (own_hi (2 : Int32)).toInt = 4294967295 := by decide
  omega
theorem ar61 {x0 : Int32} {y1 : Int64} {y2 : Int64} (h0 : x0 = (2 : Int32)) (h1 : ¬ (y1 < (1 : Int64))) (h2 : ¬ ((4294967295 : Int64) < y1)) (h3 : ¬ (y2 < (own_lo x0))) (h4 : ¬ ((own_hi x0) < y2)) (h5 : ¬ (y2 < (1 : Int64))) (h6 : ¬ ((4294967295 : Int64) < y2)) (h7 : ¬ (y2 = y1)) (h8 : y1 = y2) : False := by
  subst h0
  have q1_ := nltJ h1
  have q2_ := nltJ h2
  have q3_ := nltJ h3
  have q4_ := nltJ h4
  have q5_ := nltJ h5
  have q6_ := nltJ h6
  have q7_ := neJ h7
  have q8_ := eqJ h8
  have l9_ := rng64 y1
  have l10_ := lJ1
  have l11_ := lJ4294967295
  have l12_ := rng64 y2
  have l13_ := lI2
  have l14_ : (own_lo (2 : Int32)).toInt = 1 := by decide
  have l15_ : (own_hi (2 : Int32)).toInt = 4294967295 := by decide
  omega
theorem ar62 {x0 : Int32} {y1 : Int64} {y2 : Int64} (h0 : x0 = (3 : Int32)) (h1 : ¬ (y1 < (0 : Int64))) (h2 : ¬ ((65535 : Int64) < y1)) (h3 : ¬ ((4294967295 : Int64) < y1)) (h4 : ¬ (y2 < (own_lo x0))) (h5 : ¬ ((own_hi x0) < y2)) (h6 : ¬ (((y1.toInt32).toInt64) < (0 : Int64))) (h7 : ¬ ((65535 : Int64) < ((y1.toInt32).toInt64))) (h8 : ¬ (((y2.toInt32).toInt64) < (0 : Int64))) (h9 : ¬ ((65535 : Int64) < ((y2.toInt32).toInt64))) (h10 : y2 = y1) (h11 : ¬ ((((y1.toInt32).toInt64).toInt32) = (((y2.toInt32).toInt64).toInt32))) : False := by
  subst h0
  have q1_ := nltJ h1
  have q2_ := nltJ h2
  have q3_ := nltJ h3
  have q4_ := nltJ h4
  have q5_ := nltJ h5
  have q6_ := nltJ h6
  have q7_ := nltJ h7
  have q8_ := nltJ h8
  have q9_ := nltJ h9
  have q10_ := eqJ h10
  have q11_ := neI h11
  have l12_ := rng64 y1
  have l13_ := lJ0
  have l14_ := lJ65535
  have l15_ := lJ4294967295
  have l16_ := rng64 y2
  have l17_ := lI3
  have l18_ : (own_lo (3 : Int32)).toInt = 0 := by decide
  have l19_ : (own_hi (3 : Int32)).toInt = 65535 := by decide
  have l20_ := c_l2i y1
  have l20b_ := rng32 (y1.toInt32)
  have l21_ := c_i2l (y1.toInt32)
  have l22_ := c_l2i y2
  have l22b_ := rng32 (y2.toInt32)
  have l23_ := c_i2l (y2.toInt32)
  have l24_ := c_l2i ((y1.toInt32).toInt64)
  have l24b_ := rng32 (((y1.toInt32).toInt64).toInt32)
  have l25_ := c_l2i ((y2.toInt32).toInt64)
  have l25b_ := rng32 (((y2.toInt32).toInt64).toInt32)
  omega
theorem ar63 {x0 : Int32} {y1 : Int64} {y2 : Int64} (h0 : x0 = (3 : Int32)) (h1 : ¬ (y1 < (0 : Int64))) (h2 : ¬ ((65535 : Int64) < y1)) (h3 : ¬ ((4294967295 : Int64) < y1)) (h4 : ¬ (y2 < (own_lo x0))) (h5 : ¬ ((own_hi x0) < y2)) (h6 : ¬ (((y1.toInt32).toInt64) < (0 : Int64))) (h7 : ¬ ((65535 : Int64) < ((y1.toInt32).toInt64))) (h8 : ¬ (((y2.toInt32).toInt64) < (0 : Int64))) (h9 : ¬ ((65535 : Int64) < ((y2.toInt32).toInt64))) (h10 : y2 = y1) (h11 : ¬ ((((y2.toInt32).toInt64).toInt32) = (((y1.toInt32).toInt64).toInt32))) : False := by
  subst h0
  have q1_ := nltJ h1
  have q2_ := nltJ h2
  have q3_ := nltJ h3
  have q4_ := nltJ h4
  have q5_ := nltJ h5
  have q6_ := nltJ h6
  have q7_ := nltJ h7
  have q8_ := nltJ h8
  have q9_ := nltJ h9
  have q10_ := eqJ h10
  have q11_ := neI h11
  have l12_ := rng64 y1
  have l13_ := lJ0
  have l14_ := lJ65535
  have l15_ := lJ4294967295
  have l16_ := rng64 y2
  have l17_ := lI3
  have l18_ : (own_lo (3 : Int32)).toInt = 0 := by decide
  have l19_ : (own_hi (3 : Int32)).toInt = 65535 := by decide
  have l20_ := c_l2i y1
  have l20b_ := rng32 (y1.toInt32)
  have l21_ := c_i2l (y1.toInt32)
  have l22_ := c_l2i y2
  have l22b_ := rng32 (y2.toInt32)
  have l23_ := c_i2l (y2.toInt32)
  have l24_ := c_l2i ((y2.toInt32).toInt64)
  have l24b_ := rng32 (((y2.toInt32).toInt64).toInt32)
  have l25_ := c_l2i ((y1.toInt32).toInt64)
  have l25b_ := rng32 (((y1.toInt32).toInt64).toInt32)
  omega
theorem ar64 {x0 : Int32} {y1 : Int64} {y2 : Int64} (h0 : x0 = (3 : Int32)) (h1 : ¬ (y1 < (0 : Int64))) (h2 : ¬ ((65535 : Int64) < y1)) (h3 : ¬ ((4294967295 : Int64) < y1)) (h4 : ¬ (y2 < (own_lo x0))) (h5 : ¬ ((own_hi x0) < y2)) (h6 : ¬ (((y1.toInt32).toInt64) < (0 : Int64))) (h7 : ¬ ((65535 : Int64) < ((y1.toInt32).toInt64))) (h8 : ¬ (((y2.toInt32).toInt64) < (0 : Int64))) (h9 : ¬ ((65535 : Int64) < ((y2.toInt32).toInt64))) (h10 : ¬ (y2 = y1)) (h11 : (((y1.toInt32).toInt64).toInt32) = (((y2.toInt32).toInt64).toInt32)) : False := by
  subst h0
  have q1_ := nltJ h1
  have q2_ := nltJ h2
  have q3_ := nltJ h3
  have q4_ := nltJ h4
  have q5_ := nltJ h5
  have q6_ := nltJ h6
  have q7_ := nltJ h7
  have q8_ := nltJ h8
  have q9_ := nltJ h9
  have q10_ := neJ h10
  have q11_ := eqI h11
  have l12_ := rng64 y1
  have l13_ := lJ0
  have l14_ := lJ65535
  have l15_ := lJ4294967295
  have l16_ := rng64 y2
  have l17_ := lI3
  have l18_ : (own_lo (3 : Int32)).toInt = 0 := by decide
  have l19_ : (own_hi (3 : Int32)).toInt = 65535 := by decide
  have l20_ := c_l2i y1
  have l20b_ := rng32 (y1.toInt32)
  have l21_ := c_i2l (y1.toInt32)
  have l22_ := c_l2i y2
  have l22b_ := rng32 (y2.toInt32)
  have l23_ := c_i2l (y2.toInt32)
  have l24_ := c_l2i ((y1.toInt32).toInt64)
  have l24b_ := rng32 (((y1.toInt32).toInt64).toInt32)
  have l25_ := c_l2i ((y2.toInt32).toInt64)
  have l25b_ := rng32 (((y2.toInt32).toInt64).toInt32)
  omega
theorem ar65 {x0 : Int32} {y1 : Int64} {y2 : Int64} (h0 : x0 = (3 : Int32)) (h1 : ¬ (y1 < (0 : Int64))) (h2 : ¬ ((65535 : Int64) < y1)) (h3 : ¬ ((4294967295 : Int64) < y1)) (h4 : ¬ (y2 < (own_lo x0))) (h5 : ¬ ((own_hi x0) < y2)) (h6 : ¬ (((y1.toInt32).toInt64) < (0 : Int64))) (h7 : ¬ ((65535 : Int64) < ((y1.toInt32).toInt64))) (h8 : ¬ (((y2.toInt32).toInt64) < (0 : Int64))) (h9 : ¬ ((65535 : Int64) < ((y2.toInt32).toInt64))) (h10 : ¬ (y2 = y1)) (h11 : (((y2.toInt32).toInt64).toInt32) = (((y1.toInt32).toInt64).toInt32)) : False := by
  subst h0
  have q1_ := nltJ h1
  have q2_ := nltJ h2
  have q3_ := nltJ h3
  have q4_ := nltJ h4
  have q5_ := nltJ h5
  have q6_ := nltJ h6
  have q7_ := nltJ h7
  have q8_ := nltJ h8
  have q9_ := nltJ h9
  have q10_ := neJ h10
  have q11_ := eqI h11
  have l12_ := rng64 y1
  have l13_ := lJ0
  have l14_ := lJ65535
  have l15_ := lJ4294967295
  have l16_ := rng64 y2
  have l17_ := lI3
  have l18_ : (own_lo (3 : Int32)).toInt = 0 := by decide
  have l19_ : (own_hi (3 : Int32)).toInt = 65535 := by decide
  have l20_ := c_l2i y1
  have l20b_ := rng32 (y1.toInt32)
  have l21_ := c_i2l (y1.toInt32)
  have l22_ := c_l2i y2
  have l22b_ := rng32 (y2.toInt32)
  have l23_ := c_i2l (y2.toInt32)
  have l24_ := c_l2i ((y2.toInt32).toInt64)
  have l24b_ := rng32 (((y2.toInt32).toInt64).toInt32)
  have l25_ := c_l2i ((y1.toInt32).toInt64)
  have l25b_ := rng32 (((y1.toInt32).toInt64).toInt32)
  omega
theorem ar66 {x0 : Int32} {y1 : Int64} {y2 : Int64} (h0 : x0 = (4 : Int32)) (h1 : ¬ (y1 < (0 : Int64))) (h2 : ¬ ((65535 : Int64) < y1)) (h3 : ¬ ((4294967295 : Int64) < y1)) (h4 : ¬ (y2 < (own_lo x0))) (h5 : ¬ ((own_hi x0) < y2)) (h6 : ¬ (((y1.toInt32).toInt64) < (0 : Int64))) (h7 : ¬ ((65535 : Int64) < ((y1.toInt32).toInt64))) (h8 : ¬ (((y2.toInt32).toInt64) < (0 : Int64))) (h9 : ¬ ((65535 : Int64) < ((y2.toInt32).toInt64))) (h10 : y2 = y1) (h11 : ¬ ((((y1.toInt32).toInt64).toInt32) = (((y2.toInt32).toInt64).toInt32))) : False := by
  subst h0
  have q1_ := nltJ h1
  have q2_ := nltJ h2
  have q3_ := nltJ h3
  have q4_ := nltJ h4
  have q5_ := nltJ h5
  have q6_ := nltJ h6
  have q7_ := nltJ h7
  have q8_ := nltJ h8
  have q9_ := nltJ h9
  have q10_ := eqJ h10
  have q11_ := neI h11
  have l12_ := rng64 y1
  have l13_ := lJ0
  have l14_ := lJ65535
  have l15_ := lJ4294967295
  have l16_ := rng64 y2
  have l17_ := lI4
  have l18_ : (own_lo (4 : Int32)).toInt = 0 := by decide
  have l19_ : (own_hi (4 : Int32)).toInt = 65535 := by decide
  have l20_ := c_l2i y1
  have l20b_ := rng32 (y1.toInt32)
  have l21_ := c_i2l (y1.toInt32)
  have l22_ := c_l2i y2
  have l22b_ := rng32 (y2.toInt32)
  have l23_ := c_i2l (y2.toInt32)
  have l24_ := c_l2i ((y1.toInt32).toInt64)
  have l24b_ := rng32 (((y1.toInt32).toInt64).toInt32)
  have l25_ := c_l2i ((y2.toInt32).toInt64)
  have l25b_ := rng32 (((y2.toInt32).toInt64).toInt32)
  omega
theorem ar67 {x0 : Int32} {y1 : Int64} {y2 : Int64} (h0 : x0 = (4 : Int32)) (h1 : ¬ (y1 < (0 : Int64))) (h2 : ¬ ((65535 : Int64) < y1)) (h3 : ¬ ((4294967295 : Int64) < y1)) (h4 : ¬ (y2 < (own_lo x0))) (h5 : ¬ ((own_hi x0) < y2)) (h6 : ¬ (((y1.toInt32).toInt64) < (0 : Int64))) (h7 : ¬ ((65535 : Int64) < ((y1.toInt32).toInt64))) (h8 : ¬ (((y2.toInt32).toInt64) < (0 : Int64))) (h9 : ¬ ((65535 : Int64) < ((y2.toInt32).toInt64))) (h10 : y2 = y1) (h11 : ¬ ((((y2.toInt32).toInt64).toInt32) = (((y1.toInt32).toInt64).toInt32))) : False := by
  subst h0
  have q1_ := nltJ h1
  have q2_ := nltJ h2
  have q3_ := nltJ h3
  have q4_ := nltJ h4
  have q5_ := nltJ h5
  have q6_ := nltJ h6
  have q7_ := nltJ h7
  have q8_ := nltJ h8
  have q9_ := nltJ h9
  have q10_ := eqJ h10
  have q11_ := neI h11
  have l12_ := rng64 y1
  have l13_ := lJ0
  have l14_ := lJ65535
  have l15_ := lJ4294967295
  have l16_ := rng64 y2
  have l17_ := lI4
  have l18_ : (own_lo (4 : Int32)).toInt = 0 := by decide
  have l19_ : (own_hi (4 : Int32)).toInt = 65535 := by decide
  have l20_ := c_l2i y1
  have l20b_ := rng32 (y1.toInt32)
  have l21_ := c_i2l (y1.toInt32)
  have l22_ := c_l2i y2
  have l22b_ := rng32 (y2.toInt32)
  have l23_ := c_i2l (y2.toInt32)
  have l24_ := c_l2i ((y2.toInt32).toInt64)
  have l24b_ := rng32 (((y2.toInt32).toInt64).toInt32)
  have l25_ := c_l2i ((y1.toInt32).toInt64)
  have l25b_ := rng32 (((y1.toInt32).toInt64).toInt32)
  omega
theorem ar68 {x0 : Int32} {y1 : Int64} {y2 : Int64} (h0 : x0 = (4 : Int32)) (h1 : ¬ (y1 < (0 : Int64))) (h2 : ¬ ((65535 : Int64) < y1)) (h3 : ¬ ((4294967295 : Int64) < y1)) (h4 : ¬ (y2 < (own_lo x0))) (h5 : ¬ ((own_hi x0) < y2)) (h6 : ¬ (((y1.toInt32).toInt64) < (0 : Int64))) (h7 : ¬ ((65535 : Int64) < ((y1.toInt32).toInt64))) (h8 : ¬ (((y2.toInt32).toInt64) < (0 : Int64))) (h9 : ¬ ((65535 : Int64) < ((y2.toInt32).toInt64))) (h10 : ¬ (y2 = y1)) (h11 : (((y1.toInt32).toInt64).toInt32) = (((y2.toInt32).toInt64).toInt32)) : False := by
  subst h0
  have q1_ := nltJ h1
  have q2_ := nltJ h2
  have q3_ := nltJ h3
  have q4_ := nltJ h4
  have q5_ := nltJ h5
  have q6_ := nltJ h6
  have q7_ := nltJ h7
  have q8_ := nltJ h8
  have q9_ := nltJ h9
  have q10_ := neJ h10
  have q11_ := eqI h11
  have l12_ := rng64 y1
  have l13_ := lJ0
  have l14_ := lJ65535
  have l15_ := lJ4294967295
  have l16_ := rng64 y2
  have l17_ := lI4
  have l18_ : (own_lo (4 : Int32)).toInt = 0 := by decide
  have l19_ : (own_hi (4 : Int32)).toInt = 65535 := by decide
  have l20_ := c_l2i y1
  have l20b_ := rng32 (y1.toInt32)
  have l21_ := c_i2l (y1.toInt32)
  have l22_ := c_l2i y2
  have l22b_ := rng32 (y2.toInt32)
  have l23_ := c_i2l (y2.toInt32)
  have l24_ := c_l2i ((y1.toInt32).toInt64)
  have l24b_ := rng32 (((y1.toInt32).toInt64).toInt32)
  have l25_ := c_l2i ((y2.toInt32).toInt64)
  have l25b_ := rng32 (((y2.toInt32).toInt64).toInt32)
  omega
theorem ar69 {x0 : Int32} {y1 : Int64} {y2 : Int64} (h0 : x0 = (4 : Int32)) (h1 : ¬ (y1 < (0 : Int64))) (h2 : ¬ ((65535 : Int64) < y1)) (h3 : ¬ ((4294967295 : Int64) < y1)) (h4 : ¬ (y2 < (own_lo x0))) (h5 : ¬ ((own_hi x0) < y2)) (h6 : ¬ (((y1.toInt32).toInt64) < (0 : Int64))) (h7 : ¬ ((65535 : Int64) < ((y1.toInt32).toInt64))) (h8 : ¬ (((y2.toInt32).toInt64) < (0 : Int64))) (h9 : ¬ ((65535 : Int64) < ((y2.toInt32).toInt64))) (h10 : ¬ (y2 = y1)) (h11 : (((y2.toInt32).toInt64).toInt32) = (((y1.toInt32).toInt64).toInt32)) : False := by
  subst h0
  have q1_ := nltJ h1
  have q2_ := nltJ h2
  have q3_ := nltJ h3
  have q4_ := nltJ h4
  have q5_ := nltJ h5
  have q6_ := nltJ h6
  have q7_ := nltJ h7
  have q8_ := nltJ h8
  have q9_ := nltJ h9
  have q10_ := neJ h10
  have q11_ := eqI h11
  have l12_ := rng64 y1
  have l13_ := lJ0
  have l14_ := lJ65535
  have l15_ := lJ4294967295
  have l16_ := rng64 y2
  have l17_ := lI4
  have l18_ : (own_lo (4 : Int32)).toInt = 0 := by decide
  have l19_ : (own_hi (4 : Int32)).toInt = 65535 := by decide
  have l20_ := c_l2i y1
  have l20b_ := rng32 (y1.toInt32)
  have l21_ := c_i2l (y1.toInt32)
  have l22_ := c_l2i y2
  have l22b_ := rng32 (y2.toInt32)
  have l23_ := c_i2l (y2.toInt32)
  have l24_ := c_l2i ((y2.toInt32).toInt64)
  have l24b_ := rng32 (((y2.toInt32).toInt64).toInt32)
  have l25_ := c_l2i ((y1.toInt32).toInt64)
  have l25b_ := rng32 (((y1.toInt32).toInt64).toInt32)
  omega
theorem ar70 {x0 : Int32} {y1 : Int64} {y2 : Int64} (h0 : x0 = (5 : Int32)) (h1 : ¬ (y1 < (0 : Int64))) (h2 : ¬ ((4294967295 : Int64) < y1)) (h3 : ¬ (y2 < (own_lo x0))) (h4 : ¬ ((own_hi x0) < y2)) (h5 : ¬ (y2 < (0 : Int64))) (h6 : ¬ ((4294967295 : Int64) < y2)) (h7 : y2 = y1) (h8 : ¬ (y1 = y2)) : False := by
  subst h0
  have q1_ := nltJ h1
  have q2_ := nltJ h2
  have q3_ := nltJ h3
  have q4_ := nltJ h4
  have q5_ := nltJ h5
  have q6_ := nltJ h6
  have q7_ := eqJ h7
  have q8_ := neJ h8
  have l9_ := rng64 y1
  have l10_ := lJ0
  have l11_ := lJ4294967295
  have l12_ := rng64 y2
  have l13_ := lI5
  have l14_ : (own_lo (5 : Int32)).toInt = 0 := by decide
  have l15_ : (own_hi (5 : Int32)).toInt = 4294967295 := by decide
  omega
theorem ar71 {x0 : Int32} {y1 : Int64} {y2 : Int64} (h0 : x0 = (5 : Int32)) (h1 : ¬ (y1 < (0 : Int64))) (h2 : ¬ ((4294967295 : Int64) < y1)) (h3 : ¬ (y2 < (own_lo x0))) (h4 : ¬ ((own_hi x0) < y2)) (h5 : ¬ (y2 < (0 : Int64))) (h6 : ¬ ((4294967295 : Int64) < y2)) (h7 : ¬ (y2 = y1)) (h8 : y1 = y2) : False := by
  subst h0
  have q1_ := nltJ h1
  have q2_ := nltJ h2
  have q3_ := nltJ h3
  have q4_ := nltJ h4
  have q5_ := nltJ h5
  have q6_ := nltJ h6
  have q7_ := neJ h7
  have q8_ := eqJ h8
  have l9_ := rng64 y1
  have l10_ := lJ0
  have l11_ := lJ4294967295
  have l12_ := rng64 y2
  have l13_ := lI5
  have l14_ : (own_lo (5 : Int32)).toInt = 0 := by decide
  have l15_ : (own_hi (5 : Int32)).toInt = 4294967295 := by decide
  omega
theorem ar72 {x0 : Int32} {y1 : Int64} {y2 : Int64} (h0 : x0 = (6 : Int32)) (h1 : ¬ (y1 < (own_lo x0))) (h2 : ¬ ((own_hi x0) < y1)) (h3 : y1 = y2) (h4 : ¬ (y2 = y1)) : False := by
  subst h0
  have q1_ := nltJ h1
  have q2_ := nltJ h2
  have q3_ := eqJ h3
  have q4_ := neJ h4
  have l5_ := rng64 y1
  have l6_ := lI6
  have l7_ : (own_lo (6 : Int32)).toInt = -9223372036854775808 := by decide
  have l8_ : (own_hi (6 : Int32)).toInt = 9223372036854775807 := by decide
  have l9_ := rng64 y2
  omega
theorem ar73 {x0 : Int32} {y1 : Int64} {y2 : Int64} (h0 : x0 = (6 : Int32)) (h1 : ¬ (y1 < (own_lo x0))) (h2 : ¬ ((own_hi x0) < y1)) (h3 : ¬ (y1 = y2)) (h4 : y2 = y1) : False := by
  subst h0
  have q1_ := nltJ h1
  have q2_ := nltJ h2
  have q3_ := neJ h3
  have q4_ := eqJ h4
  have l5_ := rng64 y1
  have l6_ := lI6
  have l7_ : (own_lo (6 : Int32)).toInt = -9223372036854775808 := by decide
  have l8_ : (own_hi (6 : Int32)).toInt = 9223372036854775807 := by decide
  have l9_ := rng64 y2
  omega
theorem ar74 {x0 : Int32} {y1 : Int64} {y2 : Int64} (h0 : x0 = (7 : Int32)) (h1 : ¬ (y1 < (0 : Int64))) (h2 : ¬ ((4294967295 : Int64) < y1)) (h3 : ¬ (y2 < (own_lo x0))) (h4 : ¬ ((own_hi x0) < y2)) (h5 : ¬ (y2 < (0 : Int64))) (h6 : ¬ ((4294967295 : Int64) < y2)) (h7 : y2 = y1) (h8 : ¬ (y1 = y2)) : False := by
  subst h0
  have q1_ := nltJ h1
  have q2_ := nltJ h2
  have q3_ := nltJ h3
  have q4_ := nltJ h4
  have q5_ := nltJ h5
  have q6_ := nltJ h6
  have q7_ := eqJ h7
  have q8_ := neJ h8
  have l9_ := rng64 y1
  have l10_ := lJ0
  have l11_ := lJ4294967295
  have l12_ := rng64 y2
  have l13_ := lI7
  have l14_ : (own_lo (7 : Int32)).toInt = 0 := by decide
  have l15_ : (own_hi (7 : Int32)).toInt = 4294967295 := by decide
  omega
theorem ar75 {x0 : Int32} {y1 : Int64} {y2 : Int64} (h0 : x0 = (7 : Int32)) (h1 : ¬ (y1 < (0 : Int64))) (h2 : ¬ ((4294967295 : Int64) < y1)) (h3 : ¬ (y2 < (own_lo x0))) (h4 : ¬ ((own_hi x0) < y2)) (h5 : ¬ (y2 < (0 : Int64))) (h6 : ¬ ((4294967295 : Int64) < y2)) (h7 : ¬ (y2 = y1)) (h8 : y1 = y2) : False := by
  subst h0
  have q1_ := nltJ h1
  have q2_ := nltJ h2
  have q3_ := nltJ h3
  have q4_ := nltJ h4
  have q5_ := nltJ h5
  have q6_ := nltJ h6
  have q7_ := neJ h7
  have q8_ := eqJ h8
  have l9_ := rng64 y1
  have l10_ := lJ0
  have l11_ := lJ4294967295
  have l12_ := rng64 y2
  have l13_ := lI7
  have l14_ : (own_lo (7 : Int32)).toInt = 0 := by decide
  have l15_ : (own_hi (7 : Int32)).toInt = 4294967295 := by decide
  omega
theorem ef4 (m : MethodId) (x0 : Int64) : entryFrame m #[(.long x0)] 3 = mkF m 0 #[.val (.long x0), .second, .unset] [] := by first | (simp [entryFrame, mkF, argsToLocals, Value.category]; done) | rfl
theorem pn3 : plainName "java/lang/Long" = true := by first | (simp [plainName, overriddenIn]; done) | decide +kernel
theorem d5_0 : decode jdk_35_method_24_code 0 = .ok (.sipush 128, 3) := by decide +kernel
theorem d5_3 : decode jdk_35_method_24_code 3 = .ok (.istore_n 2, 1) := by decide +kernel
theorem d5_4 : decode jdk_35_method_24_code 4 = .ok (.lload_n 0, 1) := by decide +kernel
theorem d5_5 : decode jdk_35_method_24_code 5 = .ok (.ldc2_w 230, 3) := by decide +kernel
theorem d5_8 : decode jdk_35_method_24_code 8 = .ok (.lcmp, 1) := by decide +kernel
theorem d5_9 : decode jdk_35_method_24_code 9 = .ok (.ifCond .lt 22, 3) := by decide +kernel
theorem d5_31 : decode jdk_35_method_24_code 31 = .ok (.new 1, 3) := by decide +kernel
theorem d5_34 : decode jdk_35_method_24_code 34 = .ok (.dup, 1) := by decide +kernel
theorem d5_35 : decode jdk_35_method_24_code 35 = .ok (.lload_n 0, 1) := by decide +kernel
theorem ef5 (m : MethodId) (x0 : Addr) (x1 : Int64) : entryFrame m #[(.ref x0), (.long x1)] 3 = mkF m 0 #[.val (.ref x0), .val (.long x1), .second] [] := by first | (simp [entryFrame, mkF, argsToLocals, Value.category]; done) | rfl
theorem d7_0 : decode jdk_35_method_26_code 0 = .ok (.aload_n 0, 1) := by decide +kernel
theorem ef6 (m : MethodId) (x0 : Addr) : entryFrame m #[(.ref x0)] 1 = mkF m 0 #[.val (.ref x0)] [] := by first | (simp [entryFrame, mkF, argsToLocals, Value.category]; done) | rfl
theorem pn4 : plainName "java/lang/Number" = true := by first | (simp [plainName, overriddenIn]; done) | decide +kernel
theorem d8_0 : decode jdk_18_method_1_code 0 = .ok (.aload_n 0, 1) := by decide +kernel
theorem d8_1 : decode jdk_18_method_1_code 1 = .ok (.invokespecial 1, 3) := by decide +kernel
theorem d8_4 : decode jdk_18_method_1_code 4 = .ok (.return_, 1) := by decide +kernel
def Q8_7 (Z : State) (a_cache : Addr) (clC : Cell) (b0 : Addr) (h0 : Heap) (n0 : Nat) (v : Option Value) (h : Heap) (L : List Loc) : Prop := Fr n0 L ∧ h = h0 ∧ ((v = none))
set_option maxRecDepth 65536 in
set_option maxHeartbeats 40000000 in
theorem rm8_7 (l : Launch) (Z : State) (a0 : Array Value) (hw : ∀ d ∈ tables_1, d.before a0 Z = true) (ws : List Jvm.Cond) (a_cache : Addr) (clC : Cell) (b0 : Addr) (h0 : Heap) (n0 : Nat) (O0 : Old Z n0 h0) (HE : Env1 Z a_cache clC) (g_b0 : n0 ≤ b0) (f0 : Exa Z h0 b0 "java/lang/Long") (f1 : Fld Z h0 b0 "java/lang/Long" "value" "J" (.long (0 : Int64))) :
    MetFree l M3 (head1 (Jvm.Cond.code M3 jdk_18_method_1_code 1 none :: ws) ({ frames := 1, cells := 0, slots := 0, locals := 12 } : Room)) (fun a U => a = #[(.ref b0)] ∧ Z.Warmed39 U.vm ∧ U.heap = h0) (fun _ _ _ _ _ => True) (fun _ U o U' => ∃ v L, o = .returned v ∧ Q8_7 Z a_cache clC b0 h0 n0 v U'.heap L ∧ FrameEnd U o U' L ({ frames := 1, cells := 0, slots := 0, locals := 12 } : Room).cells ({ frames := 1, cells := 0, slots := 0, locals := 12 } : Room).slots) := by
 refine MetFree.of_bodySF (plainFor_of_name pn4) hisR ?_
 intro p e s m args below meth c s₁ Bd hml0 hP hK
 obtain ⟨rfl, hZ, hh⟩ := hP
 have hx := Bd.exec
 have hby := Bd.bytes
 have hml : c.maxLocals = 1 := hml0
 have hown : s.vm.findClass "java/lang/Number" = some m.cls := findClass_of_methodNamed Bd.named
 have hnm := (name_of_methodNamed Bd.named Bd.method).1
 have X0 : Stand p l e ({ frames := 1, cells := 0, slots := 0, locals := 12 } : Room) s m #[(.ref b0)] below meth c s₁ [] 0 0 := Stand.of_body Bd
 have e0 : s₁.heap = h0 := by rw [← hh, Bd.state]; rfl
 have N0 := Fr.nil n0
 let S0 : State → Prop := fun t => Steps p.tables e below (s₁.setTop (entryFrame m #[(.ref b0)] 1)) t
 have p0 : ∀ t, St p e below s₁ (mkF m 0 #[.val (.ref b0)] []) t → S0 t := fun t k => castTop (ef6 m b0) k
 have HE' := HE
 obtain ⟨Scache, RC, ZC, TC⟩ := HE
 have p1 : ∀ t, St p e below s₁ (mkF m 1 #[.val (.ref b0)] [(.ref b0)]) t → S0 t := fun t k => p0 t (by
   refine XS.aloadN X0.here hx rfl (hb hby d8_0) rfl rfl ?_
   exact k)
 obtain ⟨T2, X2, e2, st2⟩ := initO X0 hx hZ hown (ww hw 84 rfl) (ww hw 17 rfl) (ww hw 18 rfl) e0 (g := (mkF m 1 #[.val (.ref b0)] [(.ref b0)])) rfl (by rw [hml]; rfl) rfl (hb hby d8_1) (by decide) (W := 0) (by show 2 * 0 + _ ≤ _; exact Nat.le_of_eq rfl) (by decide)
 have p3 : ∀ t, St p e below T2 (mkF m 4 #[.val (.ref b0)] []) t → S0 t := fun t k => p1 t (st2 t k)
 obtain ⟨fs, hr, hrun, hended, hW, hsame⟩ := X2.leave (v := none) (fun _ => rfl)
 refine ⟨_, _, p3 _ ?_, hrun, hended, _, _, rfl, ?_, ⟨_, rfl⟩, hW, hsame.mono (by decide) (by decide)⟩
 · exact X2.returnOut hx Bd.returns (hb hby d8_4) hr
 · show Q8_7 Z a_cache clC b0 h0 n0 _ T2.heap _
   exact ⟨N0, e2, rfl⟩
theorem pd3 : parseMethodDescriptor "()V" = some ⟨[], none⟩ := by decide +kernel
theorem d7_1 : decode jdk_35_method_26_code 1 = .ok (.invokespecial 270, 3) := by decide +kernel
theorem d7_4 : decode jdk_35_method_26_code 4 = .ok (.aload_n 0, 1) := by decide +kernel
theorem d7_5 : decode jdk_35_method_26_code 5 = .ok (.lload_n 1, 1) := by decide +kernel
theorem d7_6 : decode jdk_35_method_26_code 6 = .ok (.putfield 273, 3) := by decide +kernel
theorem d7_9 : decode jdk_35_method_26_code 9 = .ok (.return_, 1) := by decide +kernel
def Q7_6 (Z : State) (a_cache : Addr) (clC : Cell) (j0 : Int64) (b0 : Addr) (h0 : Heap) (n0 : Nat) (v : Option Value) (h : Heap) (L : List Loc) : Prop := Fr n0 L ∧ ((v = none ∧ Keep h0 h [b0] ∧ Exa Z h b0 "java/lang/Long" ∧ Fld Z h b0 "java/lang/Long" "value" "J" (.long j0)))
set_option maxRecDepth 65536 in
set_option maxHeartbeats 40000000 in
theorem rm7_6 (l : Launch) (Z : State) (a0 : Array Value) (hw : ∀ d ∈ tables_1, d.before a0 Z = true) (ws : List Jvm.Cond) (a_cache : Addr) (clC : Cell) (j0 : Int64) (b0 : Addr) (h0 : Heap) (n0 : Nat) (O0 : Old Z n0 h0) (HE : Env1 Z a_cache clC) (g_b0 : n0 ≤ b0) (f0 : Exa Z h0 b0 "java/lang/Long") (f1 : Fld Z h0 b0 "java/lang/Long" "value" "J" (.long (0 : Int64))) :
    MetFree l M4 (head1 (Jvm.Cond.code M4 jdk_35_method_26_code 3 none :: ws) ({ frames := 2, cells := 0, slots := 0, locals := 24 } : Room)) (fun a U => a = #[(.ref b0), (.long j0)] ∧ Z.Warmed39 U.vm ∧ U.heap = h0) (fun _ _ _ _ _ => True) (fun _ U o U' => ∃ v L, o = .returned v ∧ Q7_6 Z a_cache clC j0 b0 h0 n0 v U'.heap L ∧ FrameEnd U o U' L ({ frames := 2, cells := 0, slots := 0, locals := 24 } : Room).cells ({ frames := 2, cells := 0, slots := 0, locals := 24 } : Room).slots) := by
 refine MetFree.of_bodySF (plainFor_of_name pn3) hisR ?_
 intro p e s m args below meth c s₁ Bd hml0 hP hK
 obtain ⟨rfl, hZ, hh⟩ := hP
 have hx := Bd.exec
 have hby := Bd.bytes
 have hml : c.maxLocals = 3 := hml0
 have hown : s.vm.findClass "java/lang/Long" = some m.cls := findClass_of_methodNamed Bd.named
 have hnm := (name_of_methodNamed Bd.named Bd.method).1
 have X0 : Stand p l e ({ frames := 2, cells := 0, slots := 0, locals := 24 } : Room) s m #[(.ref b0), (.long j0)] below meth c s₁ [] 0 0 := Stand.of_body Bd
 have e0 : s₁.heap = h0 := by rw [← hh, Bd.state]; rfl
 have N0 := Fr.nil n0
 let S0 : State → Prop := fun t => Steps p.tables e below (s₁.setTop (entryFrame m #[(.ref b0), (.long j0)] 3)) t
 have p0 : ∀ t, St p e below s₁ (mkF m 0 #[.val (.ref b0), .val (.long j0), .second] []) t → S0 t := fun t k => castTop (ef5 m b0 j0) k
 have HE' := HE
 obtain ⟨Scache, RC, ZC, TC⟩ := HE
 have p1 : ∀ t, St p e below s₁ (mkF m 1 #[.val (.ref b0), .val (.long j0), .second] [(.ref b0)]) t → S0 t := fun t k => p0 t (by
   refine XS.aloadN X0.here hx rfl (hb hby d7_0) rfl rfl ?_
   exact k)
 obtain ⟨_, _, ⟨Tc2, Lc2, kc2, nc2⟩, -, Xc2, ⟨Lcc2, hQc2, lc2, yc2, zc2⟩, stc2⟩ := X0.specialBack hx (y := M3) rfl hown (mvT hZ (ww hw 78 rfl)) (mvT hZ (ww hw 79 rfl)) (mvT hZ (ww hw 83 rfl)) (by decide) (backOf (W := 0) (rm8_7 l Z a0 hw [] a_cache clC b0 h0 n0 O0 HE' g_b0 f0 f1) hZ (ww hw 83 rfl) (ww hw 82 rfl) (by decide) (by decide)) (g := (mkF m 1 #[.val (.ref b0), .val (.long j0), .second] [(.ref b0)])) rfl (by rw [hml]; rfl) (Steps.refl _) (a := b0) (argsL := []) (rest := []) (lenOf pd3 rfl) rfl (by show 2 * 0 + _ ≤ _; exact Nat.le_of_eq rfl) (hb hby d7_1) (fun _ _ => ⟨rfl, e0, (by decide : 0 + 0 ≤ _), (by decide : 0 + 0 ≤ _)⟩)
 dsimp only [Pt.U, Pt.locs, Pt.cells, Pt.slots] at Xc2 lc2 yc2 zc2 stc2 hQc2
 subst lc2 yc2 zc2
 obtain ⟨Nqc2, ec2, hAc2⟩ := hQc2
 have Nc2 := Fr.app N0 Nqc2
 obtain rfl := hAc2
 have p3 : ∀ t, St p e below Tc2 (mkF m 4 #[.val (.ref b0), .val (.long j0), .second] []) t → S0 t := fun t k => p1 t (stc2.trans k)
 have p4 : ∀ t, St p e below Tc2 (mkF m 6 #[.val (.ref b0), .val (.long j0), .second] [(.long j0), (.ref b0)]) t → S0 t := fun t k => p3 t (by
   refine XS.aloadN Xc2.here hx rfl (hb hby d7_4) rfl rfl ?_
   refine XS.lloadN Xc2.here hx rfl (hb hby d7_5) rfl ?_
   exact k)
 obtain ⟨T5, h5, X5, e5, W5, st5⟩ := putF Xc2 hx hZ hown (host := "") (Or.inl (ww hw 85 rfl)) Via.refl ec2 f1 f0 (Or.inr ⟨(ww hw 86 rfl), rfl, hnm⟩) (ww hw 73 rfl) (ty := .long) (by decide) rfl rfl (g := (mkF m 6 #[.val (.ref b0), .val (.long j0), .second] [(.long j0), (.ref b0)])) rfl rfl (hb hby d7_6)
 have E_6 := f0.wr W5
 have O7 := O0.wr W5 g_b0
 have K8 := (Keep.refl h0 [b0]).wr W5 (Or.inl (List.mem_of_getElem? (i := 0) rfl))
 have F_9 : Fld Z h5 b0 "java/lang/Long" "value" "J" (.long j0) := f1.same W5
 have N10 := Fr.snoc X5 Nc2 g_b0
 have p11 : ∀ t, St p e below T5 (mkF m 9 #[.val (.ref b0), .val (.long j0), .second] []) t → S0 t := fun t k => p4 t (st5 t k)
 obtain ⟨fs, hr, hrun, hended, hW, hsame⟩ := X5.leave (v := none) (fun _ => rfl)
 refine ⟨_, _, p11 _ ?_, hrun, hended, _, _, rfl, ?_, ⟨_, rfl⟩, hW, hsame.mono (by decide) (by decide)⟩
 · exact X5.returnOut hx Bd.returns (hb hby d7_9) hr
 · show Q7_6 Z a_cache clC j0 b0 h0 n0 _ T5.heap _
   rw [e5]
   exact ⟨N10, ⟨rfl, K8, E_6, F_9⟩⟩
theorem pd4 : parseMethodDescriptor "(J)V" = some ⟨[.long], none⟩ := by decide +kernel
theorem d5_36 : decode jdk_35_method_24_code 36 = .ok (.invokespecial 240, 3) := by decide +kernel
theorem d5_39 : decode jdk_35_method_24_code 39 = .ok (.areturn, 1) := by decide +kernel
theorem d5_12 : decode jdk_35_method_24_code 12 = .ok (.lload_n 0, 1) := by decide +kernel
theorem d5_13 : decode jdk_35_method_24_code 13 = .ok (.ldc2_w 232, 3) := by decide +kernel
theorem d5_16 : decode jdk_35_method_24_code 16 = .ok (.lcmp, 1) := by decide +kernel
theorem d5_17 : decode jdk_35_method_24_code 17 = .ok (.ifCond .gt 14, 3) := by decide +kernel
theorem d5_20 : decode jdk_35_method_24_code 20 = .ok (.getstatic 234, 3) := by decide +kernel
theorem d5_23 : decode jdk_35_method_24_code 23 = .ok (.lload_n 0, 1) := by decide +kernel
theorem d5_24 : decode jdk_35_method_24_code 24 = .ok (.l2i, 1) := by decide +kernel
theorem d5_25 : decode jdk_35_method_24_code 25 = .ok (.sipush 128, 3) := by decide +kernel
theorem d5_28 : decode jdk_35_method_24_code 28 = .ok (.iadd, 1) := by decide +kernel
theorem ar76 {y0 : Int64} (h0 : ¬ (y0 < (-128 : Int64))) (h1 : ¬ ((127 : Int64) < y0)) (h2 : ((y0.toInt32) + (128 : Int32)) < (0 : Int32)) : False := by
  have q1_ := nltJ h0
  have q2_ := nltJ h1
  have q3_ := ltI h2
  have l4_ := rng64 y0
  have l5_ := lJm128
  have l6_ := lJ127
  have l7_ := c_l2i y0
  have l7b_ := rng32 (y0.toInt32)
  have l8_ := lI128
  have l9_ := c_iadd (y0.toInt32) (128 : Int32)
  have l9b_ := rng32 ((y0.toInt32) + (128 : Int32))
  have l10_ := lI0
  omega
theorem ar77 {y0 : Int64} (h0 : ¬ (y0 < (-128 : Int64))) (h1 : ¬ ((127 : Int64) < y0)) (h2 : ¬ (((y0.toInt32) + (128 : Int32)) < (256 : Int32))) : False := by
  have q1_ := nltJ h0
  have q2_ := nltJ h1
  have q3_ := nltI h2
  have l4_ := rng64 y0
  have l5_ := lJm128
  have l6_ := lJ127
  have l7_ := c_l2i y0
  have l7b_ := rng32 (y0.toInt32)
  have l8_ := lI128
  have l9_ := c_iadd (y0.toInt32) (128 : Int32)
  have l9b_ := rng32 ((y0.toInt32) + (128 : Int32))
  have l10_ := lI256
  omega
theorem d5_29 : decode jdk_35_method_24_code 29 = .ok (.aaload, 1) := by decide +kernel
theorem d5_30 : decode jdk_35_method_24_code 30 = .ok (.areturn, 1) := by decide +kernel
def Q5_5 (Z : State) (a_cache : Addr) (clC : Cell) (j0 : Int64) (h0 : Heap) (n0 : Nat) (v : Option Value) (h : Heap) (L : List Loc) : Prop := Fr n0 L ∧ ((∃ (o4 : Addr), v = some (.ref o4) ∧ Keep h0 h [] ∧ Exa Z h o4 "java/lang/Long"))
set_option maxRecDepth 65536 in
set_option maxHeartbeats 40000000 in
theorem rm5_5 (l : Launch) (Z : State) (a0 : Array Value) (hw : ∀ d ∈ tables_1, d.before a0 Z = true) (ws : List Jvm.Cond) (a_cache : Addr) (clC : Cell) (j0 : Int64) (h0 : Heap) (n0 : Nat) (O0 : Old Z n0 h0) (HE : Env1 Z a_cache clC)  :
    MetFree l M5 (head1 (Jvm.Cond.code M5 jdk_35_method_24_code 3 (some (.object "java/lang/Long")) :: ws) ({ frames := 3, cells := 1, slots := 1, locals := 39 } : Room)) (fun a U => a = #[(.long j0)] ∧ Z.Warmed39 U.vm ∧ U.heap = h0) (fun _ _ _ _ _ => True) (fun _ U o U' => ∃ v L, o = .returned v ∧ Q5_5 Z a_cache clC j0 h0 n0 v U'.heap L ∧ FrameEnd U o U' L ({ frames := 3, cells := 1, slots := 1, locals := 39 } : Room).cells ({ frames := 3, cells := 1, slots := 1, locals := 39 } : Room).slots) := by
 refine MetFree.of_bodySF (plainFor_of_name pn3) hisR ?_
 intro p e s m args below meth c s₁ Bd hml0 hP hK
 obtain ⟨rfl, hZ, hh⟩ := hP
 have hx := Bd.exec
 have hby := Bd.bytes
 have hml : c.maxLocals = 3 := hml0
 have hown : s.vm.findClass "java/lang/Long" = some m.cls := findClass_of_methodNamed Bd.named
 have hnm := (name_of_methodNamed Bd.named Bd.method).1
 have X0 : Stand p l e ({ frames := 3, cells := 1, slots := 1, locals := 39 } : Room) s m #[(.long j0)] below meth c s₁ [] 0 0 := Stand.of_body Bd
 have e0 : s₁.heap = h0 := by rw [← hh, Bd.state]; rfl
 have N0 := Fr.nil n0
 let S0 : State → Prop := fun t => Steps p.tables e below (s₁.setTop (entryFrame m #[(.long j0)] 3)) t
 have p0 : ∀ t, St p e below s₁ (mkF m 0 #[.val (.long j0), .second, .unset] []) t → S0 t := fun t k => castTop (ef4 m j0) k
 have HE' := HE
 obtain ⟨Scache, RC, ZC, TC⟩ := HE
 have p1 : ∀ t, St p e below s₁ (mkF m 9 #[.val (.long j0), .second, .val (.int (128 : Int32))] [(.int (lcmpW j0 (-128 : Int64)))]) t → S0 t := fun t k => p0 t (by
   refine XT.sipushV X0.here hx rfl (128 : Int32) (hb hby d5_0) (by decide) ?_
   refine XS.istoreN X0.here hx rfl (hb hby d5_3) rfl (l' := #[.val (.long j0), .second, .val (.int (128 : Int32))]) rfl ?_
   refine XS.lloadN X0.here hx rfl (hb hby d5_4) rfl ?_
   refine X0.ldc2J hx hown (mvT hZ (ww hw 58 rfl)) rfl (hb hby d5_5) ?_
   refine XS.lcmp X0.here hx rfl (hb hby d5_8) rfl ?_
   exact k)
 by_cases g2 : j0 < (-128 : Int64)
 ·
  have p3 : ∀ t, St p e below s₁ (mkF m 31 #[.val (.long j0), .second, .val (.int (128 : Int32))] []) t → S0 t := fun t k => p1 t (by
    refine XS.ifYes X0.here hx rfl (pc0 := 9) (pc' := 31) rfl (hb hby d5_9) rfl ((if0 _ _).trans (tlt ((lw_lt _ _).mpr g2)).1) (by decide) (by decide) ?_
    exact k)
  obtain ⟨T4, h4, X4, e4, E4, A4, D4, -, st4⟩ := newO X0 hx hZ hown (ww hw 72 rfl) (ww hw 73 rfl) (ww hw 56 rfl) e0 (g := (mkF m 31 #[.val (.long j0), .second, .val (.int (128 : Int32))] [])) rfl (hb hby d5_31) (by decide) (by decide)
  obtain ⟨o4, gq4⟩ : ∃ z, z = (h0).size := ⟨_, rfl⟩
  rw [← gq4] at A4 D4 st4
  have gb_o4 : n0 ≤ o4 := Nat.le_trans (own_old_le O0) (Nat.le_of_eq gq4.symm)
  have sz_o4 : h0.size ≤ o4 := Nat.le_trans ((Keep.refl h0 [])).1 (Nat.le_of_eq gq4.symm)
  have O5 := O0.ext E4
  have K6 := (Keep.refl h0 []).ext E4
  have E_7 : Exa Z h4 o4 "java/lang/Long" := A4
  have F_8 : Fld Z h4 o4 "java/lang/Long" "value" "J" (.long (0 : Int64)) := D4 (Or.inr (ww hw 86 rfl)) (ty := .long) (by decide)
  have p9 : ∀ t, St p e below T4 (mkF m 34 #[.val (.long j0), .second, .val (.int (128 : Int32))] [(.ref o4)]) t → S0 t := fun t k => p3 t (st4 t k)
  have p10 : ∀ t, St p e below T4 (mkF m 36 #[.val (.long j0), .second, .val (.int (128 : Int32))] [(.long j0), (.ref o4), (.ref o4)]) t → S0 t := fun t k => p9 t (by
    refine XS.dup X4.here hx rfl (hb hby d5_34) rfl rfl ?_
    refine XS.lloadN X4.here hx rfl (hb hby d5_35) rfl ?_
    exact k)
  obtain ⟨_, _, ⟨Tc11, Lc11, kc11, nc11⟩, -, Xc11, ⟨Lcc11, hQc11, lc11, yc11, zc11⟩, stc11⟩ := X4.specialBack hx (y := M4) rfl hown (mvT hZ (ww hw 74 rfl)) (mvT hZ (ww hw 75 rfl)) (mvT hZ (ww hw 77 rfl)) (by decide) (backOf (W := 1) (rm7_6 l Z a0 hw [] a_cache clC j0 o4 h4 n0 O5 HE' gb_o4 E_7 F_8) hZ (ww hw 77 rfl) (ww hw 56 rfl) (by decide) (by decide)) (g := (mkF m 36 #[.val (.long j0), .second, .val (.int (128 : Int32))] [(.long j0), (.ref o4), (.ref o4)])) rfl (by rw [hml]; rfl) (Steps.refl _) (a := o4) (argsL := [(.long j0)]) (rest := [(.ref o4)]) (lenOf pd4 rfl) rfl (by show 2 * 0 + _ ≤ _; exact Nat.le_of_eq rfl) (hb hby d5_36) (fun _ _ => ⟨rfl, e4, (by decide : 1 + 0 ≤ _), (by decide : 1 + 0 ≤ _)⟩)
  dsimp only [Pt.U, Pt.locs, Pt.cells, Pt.slots] at Xc11 lc11 yc11 zc11 stc11 hQc11
  subst lc11 yc11 zc11
  obtain ⟨Nqc11, hAc11⟩ := hQc11
  have Nc11 := Fr.app N0 Nqc11
  obtain ⟨rfl, Kcc11, f_12, f_13⟩ := hAc11
  have O14 := O5.keep Kcc11 (allS gb_o4 all0)
  have K15 := Keep.trans K6 Kcc11 (allS (Or.inr sz_o4) all0)
  have p16 : ∀ t, St p e below Tc11 (mkF m 39 #[.val (.long j0), .second, .val (.int (128 : Int32))] [(.ref o4)]) t → S0 t := fun t k => p10 t (stc11.trans k)
  obtain ⟨fs, hr, hrun, hended, hW, hsame⟩ := Xc11.leave (v := some (.ref o4)) (fun h => by rw [Bd.returns] at h; cases h)
  refine ⟨_, _, p16 _ ?_, hrun, hended, _, _, rfl, ?_, ⟨_, rfl⟩, hW, hsame.mono (by decide) (by decide)⟩
  · exact retOut Xc11 hx Bd.returns rfl (Or.inr (Or.inr (Or.inr (Or.inr ⟨rfl, rfl, rfl⟩)))) (hb hby d5_39) hr
  · show Q5_5 Z a_cache clC j0 h0 n0 _ Tc11.heap _
    exact ⟨Nc11, ⟨o4, rfl, K15, f_12⟩⟩
 ·
  have p17 : ∀ t, St p e below s₁ (mkF m 17 #[.val (.long j0), .second, .val (.int (128 : Int32))] [(.int (lcmpW j0 (127 : Int64)))]) t → S0 t := fun t k => p1 t (by
    refine XS.ifNo X0.here hx rfl (hb hby d5_9) rfl ((if0 _ _).trans (flt (mt (lw_lt _ _).mp g2)).1) ?_
    refine XS.lloadN X0.here hx rfl (hb hby d5_12) rfl ?_
    refine X0.ldc2J hx hown (mvT hZ (ww hw 59 rfl)) rfl (hb hby d5_13) ?_
    refine XS.lcmp X0.here hx rfl (hb hby d5_16) rfl ?_
    exact k)
  by_cases g18 : (127 : Int64) < j0
  ·
   have p19 : ∀ t, St p e below s₁ (mkF m 31 #[.val (.long j0), .second, .val (.int (128 : Int32))] []) t → S0 t := fun t k => p17 t (by
     refine XS.ifYes X0.here hx rfl (pc0 := 17) (pc' := 31) rfl (hb hby d5_17) rfl ((if0 _ _).trans (tlt ((lw_gt _ _).mpr g18)).2.2.1) (by decide) (by decide) ?_
     exact k)
   obtain ⟨T20, h20, X20, e20, E20, A20, D20, -, st20⟩ := newO X0 hx hZ hown (ww hw 72 rfl) (ww hw 73 rfl) (ww hw 56 rfl) e0 (g := (mkF m 31 #[.val (.long j0), .second, .val (.int (128 : Int32))] [])) rfl (hb hby d5_31) (by decide) (by decide)
   obtain ⟨o20, gq20⟩ : ∃ z, z = (h0).size := ⟨_, rfl⟩
   rw [← gq20] at A20 D20 st20
   have gb_o20 : n0 ≤ o20 := Nat.le_trans (own_old_le O0) (Nat.le_of_eq gq20.symm)
   have sz_o20 : h0.size ≤ o20 := Nat.le_trans ((Keep.refl h0 [])).1 (Nat.le_of_eq gq20.symm)
   have O21 := O0.ext E20
   have K22 := (Keep.refl h0 []).ext E20
   have E_23 : Exa Z h20 o20 "java/lang/Long" := A20
   have F_24 : Fld Z h20 o20 "java/lang/Long" "value" "J" (.long (0 : Int64)) := D20 (Or.inr (ww hw 86 rfl)) (ty := .long) (by decide)
   have p25 : ∀ t, St p e below T20 (mkF m 34 #[.val (.long j0), .second, .val (.int (128 : Int32))] [(.ref o20)]) t → S0 t := fun t k => p19 t (st20 t k)
   have p26 : ∀ t, St p e below T20 (mkF m 36 #[.val (.long j0), .second, .val (.int (128 : Int32))] [(.long j0), (.ref o20), (.ref o20)]) t → S0 t := fun t k => p25 t (by
     refine XS.dup X20.here hx rfl (hb hby d5_34) rfl rfl ?_
     refine XS.lloadN X20.here hx rfl (hb hby d5_35) rfl ?_
     exact k)
   obtain ⟨_, _, ⟨Tc27, Lc27, kc27, nc27⟩, -, Xc27, ⟨Lcc27, hQc27, lc27, yc27, zc27⟩, stc27⟩ := X20.specialBack hx (y := M4) rfl hown (mvT hZ (ww hw 74 rfl)) (mvT hZ (ww hw 75 rfl)) (mvT hZ (ww hw 77 rfl)) (by decide) (backOf (W := 1) (rm7_6 l Z a0 hw [] a_cache clC j0 o20 h20 n0 O21 HE' gb_o20 E_23 F_24) hZ (ww hw 77 rfl) (ww hw 56 rfl) (by decide) (by decide)) (g := (mkF m 36 #[.val (.long j0), .second, .val (.int (128 : Int32))] [(.long j0), (.ref o20), (.ref o20)])) rfl (by rw [hml]; rfl) (Steps.refl _) (a := o20) (argsL := [(.long j0)]) (rest := [(.ref o20)]) (lenOf pd4 rfl) rfl (by show 2 * 0 + _ ≤ _; exact Nat.le_of_eq rfl) (hb hby d5_36) (fun _ _ => ⟨rfl, e20, (by decide : 1 + 0 ≤ _), (by decide : 1 + 0 ≤ _)⟩)
   dsimp only [Pt.U, Pt.locs, Pt.cells, Pt.slots] at Xc27 lc27 yc27 zc27 stc27 hQc27
   subst lc27 yc27 zc27
   obtain ⟨Nqc27, hAc27⟩ := hQc27
   have Nc27 := Fr.app N0 Nqc27
   obtain ⟨rfl, Kcc27, f_28, f_29⟩ := hAc27
   have O30 := O21.keep Kcc27 (allS gb_o20 all0)
   have K31 := Keep.trans K22 Kcc27 (allS (Or.inr sz_o20) all0)
   have p32 : ∀ t, St p e below Tc27 (mkF m 39 #[.val (.long j0), .second, .val (.int (128 : Int32))] [(.ref o20)]) t → S0 t := fun t k => p26 t (stc27.trans k)
   obtain ⟨fs, hr, hrun, hended, hW, hsame⟩ := Xc27.leave (v := some (.ref o20)) (fun h => by rw [Bd.returns] at h; cases h)
   refine ⟨_, _, p32 _ ?_, hrun, hended, _, _, rfl, ?_, ⟨_, rfl⟩, hW, hsame.mono (by decide) (by decide)⟩
   · exact retOut Xc27 hx Bd.returns rfl (Or.inr (Or.inr (Or.inr (Or.inr ⟨rfl, rfl, rfl⟩)))) (hb hby d5_39) hr
   · show Q5_5 Z a_cache clC j0 h0 n0 _ Tc27.heap _
     exact ⟨Nc27, ⟨o20, rfl, K31, f_28⟩⟩
  ·
   have p33 : ∀ t, St p e below s₁ (mkF m 20 #[.val (.long j0), .second, .val (.int (128 : Int32))] []) t → S0 t := fun t k => p17 t (by
     refine XS.ifNo X0.here hx rfl (hb hby d5_17) rfl ((if0 _ _).trans (flt (mt (lw_gt _ _).mp g18)).2.2.1) ?_
     exact k)
   obtain ⟨T34, X34, e34, st34⟩ := getS2 X0 hx hZ hown (host := "") (Or.inl (ww hw 60 rfl)) Via.refl e0 (Scache.ext O0.2) (g := (mkF m 20 #[.val (.long j0), .second, .val (.int (128 : Int32))] [])) rfl (hb hby d5_20)
   have p35 : ∀ t, St p e below T34 (mkF m 23 #[.val (.long j0), .second, .val (.int (128 : Int32))] [(.ref a_cache)]) t → S0 t := fun t k => p33 t (st34 t k)
   have p36 : ∀ t, St p e below T34 (mkF m 29 #[.val (.long j0), .second, .val (.int (128 : Int32))] [(.int ((j0.toInt32) + (128 : Int32))), (.ref a_cache)]) t → S0 t := fun t k => p35 t (by
     refine XS.lloadN X34.here hx rfl (hb hby d5_23) rfl ?_
     refine XS.l2i X34.here hx rfl (hb hby d5_24) rfl ?_
     refine XT.sipushV X34.here hx rfl (128 : Int32) (hb hby d5_25) (by decide) ?_
     refine XS.iadd X34.here hx rfl (hb hby d5_28) rfl ?_
     exact k)
   have q38 : ¬ (((j0.toInt32) + (128 : Int32)) < (0 : Int32)) := fun r => ar76 g2 g18 r
   have q39 : ((j0.toInt32) + (128 : Int32)) < (256 : Int32) := Decidable.byContradiction fun r => ar77 g2 g18 r
   have hin37 : ¬ (((j0.toInt32) + (128 : Int32)) < 0 ∨ clC.slots.size ≤ ((j0.toInt32) + (128 : Int32)).toNatClampNeg) := inb_of ZC ⟨q38, q39⟩
   obtain ⟨ob37, hat37, Eo37⟩ := TC ((j0.toInt32) + (128 : Int32)) q38 q39
   have E_40 : Exa Z h0 ob37 "java/lang/Long" := Eo37.ext O0.2
   have p41 : ∀ t, St p e below T34 (mkF m 30 #[.val (.long j0), .second, .val (.int (128 : Int32))] [(.ref ob37)]) t → S0 t := fun t k => p36 t (by
     refine X34.aaload hx (j := ((j0.toInt32) + (128 : Int32))) (v := (.ref ob37)) (by rw [e34]; exact (RC.ext O0.2).1) (State.isArrayOf_alike hZ.alike RC.2.1) rfl RC.2.2 hin37 hat37 (g := (mkF m 29 #[.val (.long j0), .second, .val (.int (128 : Int32))] [(.int ((j0.toInt32) + (128 : Int32))), (.ref a_cache)])) rfl rfl (hb hby d5_29) _ ?_
     exact k)
   obtain ⟨fs, hr, hrun, hended, hW, hsame⟩ := X34.leave (v := some (.ref ob37)) (fun h => by rw [Bd.returns] at h; cases h)
   refine ⟨_, _, p41 _ ?_, hrun, hended, _, _, rfl, ?_, ⟨_, rfl⟩, hW, hsame.mono (by decide) (by decide)⟩
   · exact retOut X34 hx Bd.returns rfl (Or.inr (Or.inr (Or.inr (Or.inr ⟨rfl, rfl, rfl⟩)))) (hb hby d5_30) hr
   · show Q5_5 Z a_cache clC j0 h0 n0 _ T34.heap _
     rw [e34]
     exact ⟨N0, ⟨ob37, rfl, (Keep.refl h0 []), E_40⟩⟩
theorem pd5 : parseMethodDescriptor "(J)Ljava/lang/Long;" = some ⟨[.long], some (.object "java/lang/Long")⟩ := by decide +kernel
theorem ef7 (m : MethodId) (x0 : Addr) (x1 : Addr) : entryFrame m #[(.ref x0), (.ref x1)] 3 = mkF m 0 #[.val (.ref x0), .val (.ref x1), .unset] [] := by first | (simp [entryFrame, mkF, argsToLocals, Value.category]; done) | rfl
theorem d6_0 : decode prog_8_method_12_code 0 = .ok (.aload_n 1, 1) := by decide +kernel
theorem d6_1 : decode prog_8_method_12_code 1 = .ok (.instanceof 8, 3) := by decide +kernel
theorem d6_4 : decode prog_8_method_12_code 4 = .ok (.ifCond .ne 5, 3) := by decide +kernel
theorem d6_9 : decode prog_8_method_12_code 9 = .ok (.aload_n 1, 1) := by decide +kernel
theorem d6_10 : decode prog_8_method_12_code 10 = .ok (.checkcast 8, 3) := by decide +kernel
theorem d6_13 : decode prog_8_method_12_code 13 = .ok (.astore_n 2, 1) := by decide +kernel
theorem d6_14 : decode prog_8_method_12_code 14 = .ok (.aload_n 0, 1) := by decide +kernel
theorem d6_15 : decode prog_8_method_12_code 15 = .ok (.getfield 7, 3) := by decide +kernel
theorem d6_18 : decode prog_8_method_12_code 18 = .ok (.aload_n 2, 1) := by decide +kernel
theorem d6_19 : decode prog_8_method_12_code 19 = .ok (.getfield 7, 3) := by decide +kernel
theorem d6_22 : decode prog_8_method_12_code 22 = .ok (.if_icmp .ne 88, 3) := by decide +kernel
theorem d6_25 : decode prog_8_method_12_code 25 = .ok (.aload_n 0, 1) := by decide +kernel
theorem d6_26 : decode prog_8_method_12_code 26 = .ok (.getfield 23, 3) := by decide +kernel
theorem d6_29 : decode prog_8_method_12_code 29 = .ok (.aload_n 2, 1) := by decide +kernel
theorem d6_30 : decode prog_8_method_12_code 30 = .ok (.getfield 23, 3) := by decide +kernel
theorem d6_33 : decode prog_8_method_12_code 33 = .ok (.if_icmp .ne 77, 3) := by decide +kernel
theorem d6_36 : decode prog_8_method_12_code 36 = .ok (.aload_n 0, 1) := by decide +kernel
theorem d6_37 : decode prog_8_method_12_code 37 = .ok (.getfield 30, 3) := by decide +kernel
theorem d6_40 : decode prog_8_method_12_code 40 = .ok (.aload_n 2, 1) := by decide +kernel
theorem d6_41 : decode prog_8_method_12_code 41 = .ok (.getfield 30, 3) := by decide +kernel
theorem d6_44 : decode prog_8_method_12_code 44 = .ok (.lcmp, 1) := by decide +kernel
theorem d6_45 : decode prog_8_method_12_code 45 = .ok (.ifCond .ne 65, 3) := by decide +kernel
theorem d6_48 : decode prog_8_method_12_code 48 = .ok (.aload_n 0, 1) := by decide +kernel
theorem d6_49 : decode prog_8_method_12_code 49 = .ok (.getfield 35, 3) := by decide +kernel
theorem d6_52 : decode prog_8_method_12_code 52 = .ok (.aload_n 2, 1) := by decide +kernel
theorem d6_53 : decode prog_8_method_12_code 53 = .ok (.getfield 35, 3) := by decide +kernel
theorem d6_56 : decode prog_8_method_12_code 56 = .ok (.if_icmp .ne 54, 3) := by decide +kernel
theorem d6_59 : decode prog_8_method_12_code 59 = .ok (.aload_n 0, 1) := by decide +kernel
theorem d6_60 : decode prog_8_method_12_code 60 = .ok (.getfield 39, 3) := by decide +kernel
theorem d6_63 : decode prog_8_method_12_code 63 = .ok (.aload_n 2, 1) := by decide +kernel
theorem d6_64 : decode prog_8_method_12_code 64 = .ok (.getfield 39, 3) := by decide +kernel
theorem d6_67 : decode prog_8_method_12_code 67 = .ok (.if_icmp .ne 43, 3) := by decide +kernel
theorem d6_70 : decode prog_8_method_12_code 70 = .ok (.aload_n 0, 1) := by decide +kernel
theorem d6_71 : decode prog_8_method_12_code 71 = .ok (.getfield 43, 3) := by decide +kernel
theorem d6_74 : decode prog_8_method_12_code 74 = .ok (.aload_n 2, 1) := by decide +kernel
theorem d6_75 : decode prog_8_method_12_code 75 = .ok (.getfield 43, 3) := by decide +kernel
theorem d6_78 : decode prog_8_method_12_code 78 = .ok (.lcmp, 1) := by decide +kernel
theorem d6_79 : decode prog_8_method_12_code 79 = .ok (.ifCond .ne 31, 3) := by decide +kernel
theorem d6_82 : decode prog_8_method_12_code 82 = .ok (.aload_n 0, 1) := by decide +kernel
theorem d6_83 : decode prog_8_method_12_code 83 = .ok (.getfield 45, 3) := by decide +kernel
theorem d6_86 : decode prog_8_method_12_code 86 = .ok (.aload_n 2, 1) := by decide +kernel
theorem d6_87 : decode prog_8_method_12_code 87 = .ok (.getfield 45, 3) := by decide +kernel
theorem d6_90 : decode prog_8_method_12_code 90 = .ok (.lcmp, 1) := by decide +kernel
theorem d6_91 : decode prog_8_method_12_code 91 = .ok (.ifCond .ne 19, 3) := by decide +kernel
theorem d6_94 : decode prog_8_method_12_code 94 = .ok (.aload_n 0, 1) := by decide +kernel
theorem d6_95 : decode prog_8_method_12_code 95 = .ok (.getfield 50, 3) := by decide +kernel
theorem d6_98 : decode prog_8_method_12_code 98 = .ok (.aload_n 2, 1) := by decide +kernel
theorem d6_99 : decode prog_8_method_12_code 99 = .ok (.getfield 50, 3) := by decide +kernel
theorem d6_102 : decode prog_8_method_12_code 102 = .ok (.lcmp, 1) := by decide +kernel
theorem d6_103 : decode prog_8_method_12_code 103 = .ok (.ifCond .ne 7, 3) := by decide +kernel
theorem d6_106 : decode prog_8_method_12_code 106 = .ok (.iconst 1, 1) := by decide +kernel
theorem d6_107 : decode prog_8_method_12_code 107 = .ok (.goto 4, 3) := by decide +kernel
theorem d6_111 : decode prog_8_method_12_code 111 = .ok (.ireturn, 1) := by decide +kernel
theorem d6_110 : decode prog_8_method_12_code 110 = .ok (.iconst 0, 1) := by decide +kernel
def Q6_8 (Z : State) (a_cache : Addr) (clC : Cell) (i0 : Int32) (i1 : Int32) (j2 : Int64) (i3 : Int32) (i4 : Int32) (j5 : Int64) (j6 : Int64) (j7 : Int64) (i8 : Int32) (i9 : Int32) (j10 : Int64) (i11 : Int32) (i12 : Int32) (j13 : Int64) (j14 : Int64) (j15 : Int64) (b0 : Addr) (b1 : Addr) (h0 : Heap) (n0 : Nat) (v : Option Value) (h : Heap) (L : List Loc) : Prop := Fr n0 L ∧ h = h0 ∧ ((v = some (.int (own_eq8 i0 i1 j2 i3 i4 j5 j6 j7 i8 i9 j10 i11 i12 j13 j14 j15))))
set_option maxRecDepth 65536 in
set_option maxHeartbeats 40000000 in
theorem rm6_8 (l : Launch) (Z : State) (a0 : Array Value) (hw : ∀ d ∈ tables_1, d.before a0 Z = true) (ws : List Jvm.Cond) (a_cache : Addr) (clC : Cell) (i0 : Int32) (i1 : Int32) (j2 : Int64) (i3 : Int32) (i4 : Int32) (j5 : Int64) (j6 : Int64) (j7 : Int64) (i8 : Int32) (i9 : Int32) (j10 : Int64) (i11 : Int32) (i12 : Int32) (j13 : Int64) (j14 : Int64) (j15 : Int64) (b0 : Addr) (b1 : Addr) (h0 : Heap) (n0 : Nat) (O0 : Old Z n0 h0) (HE : Env1 Z a_cache clC) (g_b0 : n0 ≤ b0) (g_b1 : n0 ≤ b1) (ne_b0_b1 : b0 ≠ b1) (f0 : Exa Z h0 b0 "com/example/vacant_throne/vacantthrone/core/Heartbeat") (f1 : Fld Z h0 b0 "com/example/vacant_throne/vacantthrone/core/Heartbeat" "reveal" "Z" (.int i0)) (f2 : Fld Z h0 b0 "com/example/vacant_throne/vacantthrone/core/Heartbeat" "set" "I" (.int i1)) (f3 : Fld Z h0 b0 "com/example/vacant_throne/vacantthrone/core/Heartbeat" "sender" "J" (.long j2)) (f4 : Fld Z h0 b0 "com/example/vacant_throne/vacantthrone/core/Heartbeat" "priority" "I" (.int i3)) (f5 : Fld Z h0 b0 "com/example/vacant_throne/vacantthrone/core/Heartbeat" "periodMs" "I" (.int i4)) (f6 : Fld Z h0 b0 "com/example/vacant_throne/vacantthrone/core/Heartbeat" "handOverTarget" "J" (.long j5)) (f7 : Fld Z h0 b0 "com/example/vacant_throne/vacantthrone/core/Heartbeat" "incarnation" "J" (.long j6)) (f8 : Fld Z h0 b0 "com/example/vacant_throne/vacantthrone/core/Heartbeat" "sequence" "J" (.long j7)) (f9 : Exa Z h0 b1 "com/example/vacant_throne/vacantthrone/core/Heartbeat") (f10 : Fld Z h0 b1 "com/example/vacant_throne/vacantthrone/core/Heartbeat" "reveal" "Z" (.int i8)) (f11 : Fld Z h0 b1 "com/example/vacant_throne/vacantthrone/core/Heartbeat" "set" "I" (.int i9)) (f12 : Fld Z h0 b1 "com/example/vacant_throne/vacantthrone/core/Heartbeat" "sender" "J" (.long j10)) (f13 : Fld Z h0 b1 "com/example/vacant_throne/vacantthrone/core/Heartbeat" "priority" "I" (.int i11)) (f14 : Fld Z h0 b1 "com/example/vacant_throne/vacantthrone/core/Heartbeat" "periodMs" "I" (.int i12)) (f15 : Fld Z h0 b1 "com/example/vacant_throne/vacantthrone/core/Heartbeat" "handOverTarget" "J" (.long j13)) (f16 : Fld Z h0 b1 "com/example/vacant_throne/vacantthrone/core/Heartbeat" "incarnation" "J" (.long j14)) (f17 : Fld Z h0 b1 "com/example/vacant_throne/vacantthrone/core/Heartbeat" "sequence" "J" (.long j15)) :
    MetFree l M6 (head1 (Jvm.Cond.code M6 prog_8_method_12_code 3 (some .boolean) :: ws) ({ frames := 0, cells := 0, slots := 0, locals := 0 } : Room)) (fun a U => a = #[(.ref b0), (.ref b1)] ∧ Z.Warmed39 U.vm ∧ U.heap = h0) (fun _ _ _ _ _ => True) (fun _ U o U' => ∃ v L, o = .returned v ∧ Q6_8 Z a_cache clC i0 i1 j2 i3 i4 j5 j6 j7 i8 i9 j10 i11 i12 j13 j14 j15 b0 b1 h0 n0 v U'.heap L ∧ FrameEnd U o U' L ({ frames := 0, cells := 0, slots := 0, locals := 0 } : Room).cells ({ frames := 0, cells := 0, slots := 0, locals := 0 } : Room).slots) := by
 refine MetFree.of_bodySF (plainFor_of_name pn1) hisR ?_
 intro p e s m args below meth c s₁ Bd hml0 hP hK
 obtain ⟨rfl, hZ, hh⟩ := hP
 have hx := Bd.exec
 have hby := Bd.bytes
 have hml : c.maxLocals = 3 := hml0
 have hown : s.vm.findClass "com/example/vacant_throne/vacantthrone/core/Heartbeat" = some m.cls := findClass_of_methodNamed Bd.named
 have hnm := (name_of_methodNamed Bd.named Bd.method).1
 have X0 : Stand p l e ({ frames := 0, cells := 0, slots := 0, locals := 0 } : Room) s m #[(.ref b0), (.ref b1)] below meth c s₁ [] 0 0 := Stand.of_body Bd
 have e0 : s₁.heap = h0 := by rw [← hh, Bd.state]; rfl
 have N0 := Fr.nil n0
 let S0 : State → Prop := fun t => Steps p.tables e below (s₁.setTop (entryFrame m #[(.ref b0), (.ref b1)] 3)) t
 have p0 : ∀ t, St p e below s₁ (mkF m 0 #[.val (.ref b0), .val (.ref b1), .unset] []) t → S0 t := fun t k => castTop (ef7 m b0 b1) k
 have HE' := HE
 obtain ⟨Scache, RC, ZC, TC⟩ := HE
 have p1 : ∀ t, St p e below s₁ (mkF m 1 #[.val (.ref b0), .val (.ref b1), .unset] [(.ref b1)]) t → S0 t := fun t k => p0 t (by
   refine XS.aloadN X0.here hx rfl (hb hby d6_0) rfl rfl ?_
   exact k)
 obtain ⟨T2, X2, e2, st2⟩ := instY X0 hx hZ hown (ww hw 67 rfl) e0 (Ins.self f9) (g := (mkF m 1 #[.val (.ref b0), .val (.ref b1), .unset] [(.ref b1)])) rfl rfl (hb hby d6_1)
 have p3 : ∀ t, St p e below T2 (mkF m 4 #[.val (.ref b0), .val (.ref b1), .unset] [(.int (1 : Int32))]) t → S0 t := fun t k => p1 t (st2 t k)
 have p4 : ∀ t, St p e below T2 (mkF m 10 #[.val (.ref b0), .val (.ref b1), .unset] [(.ref b1)]) t → S0 t := fun t k => p3 t (by
   refine XS.ifYes X2.here hx rfl (pc0 := 4) (pc' := 9) rfl (hb hby d6_4) rfl ((if0 _ _).trans (feq (by decide : ¬ ((1 : Int32) = (0 : Int32)))).2) (by decide) (by decide) ?_
   refine XS.aloadN X2.here hx rfl (hb hby d6_9) rfl rfl ?_
   exact k)
 obtain ⟨T5, X5, e5, st5⟩ := castY X2 hx hZ hown (ww hw 67 rfl) e2 (Ins.self f9) (g := (mkF m 10 #[.val (.ref b0), .val (.ref b1), .unset] [(.ref b1)])) rfl rfl (hb hby d6_10)
 have p6 : ∀ t, St p e below T5 (mkF m 13 #[.val (.ref b0), .val (.ref b1), .unset] [(.ref b1)]) t → S0 t := fun t k => p4 t (st5 t k)
 have p7 : ∀ t, St p e below T5 (mkF m 15 #[.val (.ref b0), .val (.ref b1), .val (.ref b1)] [(.ref b0)]) t → S0 t := fun t k => p6 t (by
   refine XS.astoreN X5.here hx rfl (hb hby d6_13) rfl rfl (l' := #[.val (.ref b0), .val (.ref b1), .val (.ref b1)]) rfl ?_
   refine XS.aloadN X5.here hx rfl (hb hby d6_14) rfl rfl ?_
   exact k)
 obtain ⟨T8, X8, e8, st8⟩ := getF X5 hx hZ hown (host := "") (Or.inl (ww hw 19 rfl)) Via.refl e5 f1 (g := (mkF m 15 #[.val (.ref b0), .val (.ref b1), .val (.ref b1)] [(.ref b0)])) rfl rfl (hb hby d6_15)
 have p9 : ∀ t, St p e below T8 (mkF m 18 #[.val (.ref b0), .val (.ref b1), .val (.ref b1)] [(.int i0)]) t → S0 t := fun t k => p7 t (st8 t k)
 have p10 : ∀ t, St p e below T8 (mkF m 19 #[.val (.ref b0), .val (.ref b1), .val (.ref b1)] [(.ref b1), (.int i0)]) t → S0 t := fun t k => p9 t (by
   refine XS.aloadN X8.here hx rfl (hb hby d6_18) rfl rfl ?_
   exact k)
 obtain ⟨T11, X11, e11, st11⟩ := getF X8 hx hZ hown (host := "") (Or.inl (ww hw 19 rfl)) Via.refl e8 f10 (g := (mkF m 19 #[.val (.ref b0), .val (.ref b1), .val (.ref b1)] [(.ref b1), (.int i0)])) rfl rfl (hb hby d6_19)
 have p12 : ∀ t, St p e below T11 (mkF m 22 #[.val (.ref b0), .val (.ref b1), .val (.ref b1)] [(.int i8), (.int i0)]) t → S0 t := fun t k => p10 t (st11 t k)
 by_cases g13 : i0 = i8
 ·
  have p14 : ∀ t, St p e below T11 (mkF m 26 #[.val (.ref b0), .val (.ref b1), .val (.ref b1)] [(.ref b0)]) t → S0 t := fun t k => p12 t (by
    refine XS.icmpNo X11.here hx rfl (hb hby d6_22) rfl (teq g13).2 ?_
    refine XS.aloadN X11.here hx rfl (hb hby d6_25) rfl rfl ?_
    exact k)
  obtain ⟨T15, X15, e15, st15⟩ := getF X11 hx hZ hown (host := "") (Or.inl (ww hw 34 rfl)) Via.refl e11 f2 (g := (mkF m 26 #[.val (.ref b0), .val (.ref b1), .val (.ref b1)] [(.ref b0)])) rfl rfl (hb hby d6_26)
  have p16 : ∀ t, St p e below T15 (mkF m 29 #[.val (.ref b0), .val (.ref b1), .val (.ref b1)] [(.int i1)]) t → S0 t := fun t k => p14 t (st15 t k)
  have p17 : ∀ t, St p e below T15 (mkF m 30 #[.val (.ref b0), .val (.ref b1), .val (.ref b1)] [(.ref b1), (.int i1)]) t → S0 t := fun t k => p16 t (by
    refine XS.aloadN X15.here hx rfl (hb hby d6_29) rfl rfl ?_
    exact k)
  obtain ⟨T18, X18, e18, st18⟩ := getF X15 hx hZ hown (host := "") (Or.inl (ww hw 34 rfl)) Via.refl e15 f11 (g := (mkF m 30 #[.val (.ref b0), .val (.ref b1), .val (.ref b1)] [(.ref b1), (.int i1)])) rfl rfl (hb hby d6_30)
  have p19 : ∀ t, St p e below T18 (mkF m 33 #[.val (.ref b0), .val (.ref b1), .val (.ref b1)] [(.int i9), (.int i1)]) t → S0 t := fun t k => p17 t (st18 t k)
  by_cases g20 : i1 = i9
  ·
   have p21 : ∀ t, St p e below T18 (mkF m 37 #[.val (.ref b0), .val (.ref b1), .val (.ref b1)] [(.ref b0)]) t → S0 t := fun t k => p19 t (by
     refine XS.icmpNo X18.here hx rfl (hb hby d6_33) rfl (teq g20).2 ?_
     refine XS.aloadN X18.here hx rfl (hb hby d6_36) rfl rfl ?_
     exact k)
   obtain ⟨T22, X22, e22, st22⟩ := getF X18 hx hZ hown (host := "") (Or.inl (ww hw 38 rfl)) Via.refl e18 f3 (g := (mkF m 37 #[.val (.ref b0), .val (.ref b1), .val (.ref b1)] [(.ref b0)])) rfl rfl (hb hby d6_37)
   have p23 : ∀ t, St p e below T22 (mkF m 40 #[.val (.ref b0), .val (.ref b1), .val (.ref b1)] [(.long j2)]) t → S0 t := fun t k => p21 t (st22 t k)
   have p24 : ∀ t, St p e below T22 (mkF m 41 #[.val (.ref b0), .val (.ref b1), .val (.ref b1)] [(.ref b1), (.long j2)]) t → S0 t := fun t k => p23 t (by
     refine XS.aloadN X22.here hx rfl (hb hby d6_40) rfl rfl ?_
     exact k)
   obtain ⟨T25, X25, e25, st25⟩ := getF X22 hx hZ hown (host := "") (Or.inl (ww hw 38 rfl)) Via.refl e22 f12 (g := (mkF m 41 #[.val (.ref b0), .val (.ref b1), .val (.ref b1)] [(.ref b1), (.long j2)])) rfl rfl (hb hby d6_41)
   have p26 : ∀ t, St p e below T25 (mkF m 44 #[.val (.ref b0), .val (.ref b1), .val (.ref b1)] [(.long j10), (.long j2)]) t → S0 t := fun t k => p24 t (st25 t k)
   have p27 : ∀ t, St p e below T25 (mkF m 45 #[.val (.ref b0), .val (.ref b1), .val (.ref b1)] [(.int (lcmpW j2 j10))]) t → S0 t := fun t k => p26 t (by
     refine XS.lcmp X25.here hx rfl (hb hby d6_44) rfl ?_
     exact k)
   by_cases g28 : j2 = j10
   ·
    have p29 : ∀ t, St p e below T25 (mkF m 49 #[.val (.ref b0), .val (.ref b1), .val (.ref b1)] [(.ref b0)]) t → S0 t := fun t k => p27 t (by
      refine XS.ifNo X25.here hx rfl (hb hby d6_45) rfl ((if0 _ _).trans (teq ((lw_eq _ _).mpr g28)).2) ?_
      refine XS.aloadN X25.here hx rfl (hb hby d6_48) rfl rfl ?_
      exact k)
    obtain ⟨T30, X30, e30, st30⟩ := getF X25 hx hZ hown (host := "") (Or.inl (ww hw 41 rfl)) Via.refl e25 f4 (g := (mkF m 49 #[.val (.ref b0), .val (.ref b1), .val (.ref b1)] [(.ref b0)])) rfl rfl (hb hby d6_49)
    have p31 : ∀ t, St p e below T30 (mkF m 52 #[.val (.ref b0), .val (.ref b1), .val (.ref b1)] [(.int i3)]) t → S0 t := fun t k => p29 t (st30 t k)
    have p32 : ∀ t, St p e below T30 (mkF m 53 #[.val (.ref b0), .val (.ref b1), .val (.ref b1)] [(.ref b1), (.int i3)]) t → S0 t := fun t k => p31 t (by
      refine XS.aloadN X30.here hx rfl (hb hby d6_52) rfl rfl ?_
      exact k)
    obtain ⟨T33, X33, e33, st33⟩ := getF X30 hx hZ hown (host := "") (Or.inl (ww hw 41 rfl)) Via.refl e30 f13 (g := (mkF m 53 #[.val (.ref b0), .val (.ref b1), .val (.ref b1)] [(.ref b1), (.int i3)])) rfl rfl (hb hby d6_53)
    have p34 : ∀ t, St p e below T33 (mkF m 56 #[.val (.ref b0), .val (.ref b1), .val (.ref b1)] [(.int i11), (.int i3)]) t → S0 t := fun t k => p32 t (st33 t k)
    by_cases g35 : i3 = i11
    ·
     have p36 : ∀ t, St p e below T33 (mkF m 60 #[.val (.ref b0), .val (.ref b1), .val (.ref b1)] [(.ref b0)]) t → S0 t := fun t k => p34 t (by
       refine XS.icmpNo X33.here hx rfl (hb hby d6_56) rfl (teq g35).2 ?_
       refine XS.aloadN X33.here hx rfl (hb hby d6_59) rfl rfl ?_
       exact k)
     obtain ⟨T37, X37, e37, st37⟩ := getF X33 hx hZ hown (host := "") (Or.inl (ww hw 44 rfl)) Via.refl e33 f5 (g := (mkF m 60 #[.val (.ref b0), .val (.ref b1), .val (.ref b1)] [(.ref b0)])) rfl rfl (hb hby d6_60)
     have p38 : ∀ t, St p e below T37 (mkF m 63 #[.val (.ref b0), .val (.ref b1), .val (.ref b1)] [(.int i4)]) t → S0 t := fun t k => p36 t (st37 t k)
     have p39 : ∀ t, St p e below T37 (mkF m 64 #[.val (.ref b0), .val (.ref b1), .val (.ref b1)] [(.ref b1), (.int i4)]) t → S0 t := fun t k => p38 t (by
       refine XS.aloadN X37.here hx rfl (hb hby d6_63) rfl rfl ?_
       exact k)
     obtain ⟨T40, X40, e40, st40⟩ := getF X37 hx hZ hown (host := "") (Or.inl (ww hw 44 rfl)) Via.refl e37 f14 (g := (mkF m 64 #[.val (.ref b0), .val (.ref b1), .val (.ref b1)] [(.ref b1), (.int i4)])) rfl rfl (hb hby d6_64)
     have p41 : ∀ t, St p e below T40 (mkF m 67 #[.val (.ref b0), .val (.ref b1), .val (.ref b1)] [(.int i12), (.int i4)]) t → S0 t := fun t k => p39 t (st40 t k)
     by_cases g42 : i4 = i12
     ·
      have p43 : ∀ t, St p e below T40 (mkF m 71 #[.val (.ref b0), .val (.ref b1), .val (.ref b1)] [(.ref b0)]) t → S0 t := fun t k => p41 t (by
        refine XS.icmpNo X40.here hx rfl (hb hby d6_67) rfl (teq g42).2 ?_
        refine XS.aloadN X40.here hx rfl (hb hby d6_70) rfl rfl ?_
        exact k)
      obtain ⟨T44, X44, e44, st44⟩ := getF X40 hx hZ hown (host := "") (Or.inl (ww hw 47 rfl)) Via.refl e40 f6 (g := (mkF m 71 #[.val (.ref b0), .val (.ref b1), .val (.ref b1)] [(.ref b0)])) rfl rfl (hb hby d6_71)
      have p45 : ∀ t, St p e below T44 (mkF m 74 #[.val (.ref b0), .val (.ref b1), .val (.ref b1)] [(.long j5)]) t → S0 t := fun t k => p43 t (st44 t k)
      have p46 : ∀ t, St p e below T44 (mkF m 75 #[.val (.ref b0), .val (.ref b1), .val (.ref b1)] [(.ref b1), (.long j5)]) t → S0 t := fun t k => p45 t (by
        refine XS.aloadN X44.here hx rfl (hb hby d6_74) rfl rfl ?_
        exact k)
      obtain ⟨T47, X47, e47, st47⟩ := getF X44 hx hZ hown (host := "") (Or.inl (ww hw 47 rfl)) Via.refl e44 f15 (g := (mkF m 75 #[.val (.ref b0), .val (.ref b1), .val (.ref b1)] [(.ref b1), (.long j5)])) rfl rfl (hb hby d6_75)
      have p48 : ∀ t, St p e below T47 (mkF m 78 #[.val (.ref b0), .val (.ref b1), .val (.ref b1)] [(.long j13), (.long j5)]) t → S0 t := fun t k => p46 t (st47 t k)
      have p49 : ∀ t, St p e below T47 (mkF m 79 #[.val (.ref b0), .val (.ref b1), .val (.ref b1)] [(.int (lcmpW j5 j13))]) t → S0 t := fun t k => p48 t (by
        refine XS.lcmp X47.here hx rfl (hb hby d6_78) rfl ?_
        exact k)
      by_cases g50 : j5 = j13
      ·
       have p51 : ∀ t, St p e below T47 (mkF m 83 #[.val (.ref b0), .val (.ref b1), .val (.ref b1)] [(.ref b0)]) t → S0 t := fun t k => p49 t (by
         refine XS.ifNo X47.here hx rfl (hb hby d6_79) rfl ((if0 _ _).trans (teq ((lw_eq _ _).mpr g50)).2) ?_
         refine XS.aloadN X47.here hx rfl (hb hby d6_82) rfl rfl ?_
         exact k)
       obtain ⟨T52, X52, e52, st52⟩ := getF X47 hx hZ hown (host := "") (Or.inl (ww hw 49 rfl)) Via.refl e47 f7 (g := (mkF m 83 #[.val (.ref b0), .val (.ref b1), .val (.ref b1)] [(.ref b0)])) rfl rfl (hb hby d6_83)
       have p53 : ∀ t, St p e below T52 (mkF m 86 #[.val (.ref b0), .val (.ref b1), .val (.ref b1)] [(.long j6)]) t → S0 t := fun t k => p51 t (st52 t k)
       have p54 : ∀ t, St p e below T52 (mkF m 87 #[.val (.ref b0), .val (.ref b1), .val (.ref b1)] [(.ref b1), (.long j6)]) t → S0 t := fun t k => p53 t (by
         refine XS.aloadN X52.here hx rfl (hb hby d6_86) rfl rfl ?_
         exact k)
       obtain ⟨T55, X55, e55, st55⟩ := getF X52 hx hZ hown (host := "") (Or.inl (ww hw 49 rfl)) Via.refl e52 f16 (g := (mkF m 87 #[.val (.ref b0), .val (.ref b1), .val (.ref b1)] [(.ref b1), (.long j6)])) rfl rfl (hb hby d6_87)
       have p56 : ∀ t, St p e below T55 (mkF m 90 #[.val (.ref b0), .val (.ref b1), .val (.ref b1)] [(.long j14), (.long j6)]) t → S0 t := fun t k => p54 t (st55 t k)
       have p57 : ∀ t, St p e below T55 (mkF m 91 #[.val (.ref b0), .val (.ref b1), .val (.ref b1)] [(.int (lcmpW j6 j14))]) t → S0 t := fun t k => p56 t (by
         refine XS.lcmp X55.here hx rfl (hb hby d6_90) rfl ?_
         exact k)
       by_cases g58 : j6 = j14
       ·
        have p59 : ∀ t, St p e below T55 (mkF m 95 #[.val (.ref b0), .val (.ref b1), .val (.ref b1)] [(.ref b0)]) t → S0 t := fun t k => p57 t (by
          refine XS.ifNo X55.here hx rfl (hb hby d6_91) rfl ((if0 _ _).trans (teq ((lw_eq _ _).mpr g58)).2) ?_
          refine XS.aloadN X55.here hx rfl (hb hby d6_94) rfl rfl ?_
          exact k)
        obtain ⟨T60, X60, e60, st60⟩ := getF X55 hx hZ hown (host := "") (Or.inl (ww hw 52 rfl)) Via.refl e55 f8 (g := (mkF m 95 #[.val (.ref b0), .val (.ref b1), .val (.ref b1)] [(.ref b0)])) rfl rfl (hb hby d6_95)
        have p61 : ∀ t, St p e below T60 (mkF m 98 #[.val (.ref b0), .val (.ref b1), .val (.ref b1)] [(.long j7)]) t → S0 t := fun t k => p59 t (st60 t k)
        have p62 : ∀ t, St p e below T60 (mkF m 99 #[.val (.ref b0), .val (.ref b1), .val (.ref b1)] [(.ref b1), (.long j7)]) t → S0 t := fun t k => p61 t (by
          refine XS.aloadN X60.here hx rfl (hb hby d6_98) rfl rfl ?_
          exact k)
        obtain ⟨T63, X63, e63, st63⟩ := getF X60 hx hZ hown (host := "") (Or.inl (ww hw 52 rfl)) Via.refl e60 f17 (g := (mkF m 99 #[.val (.ref b0), .val (.ref b1), .val (.ref b1)] [(.ref b1), (.long j7)])) rfl rfl (hb hby d6_99)
        have p64 : ∀ t, St p e below T63 (mkF m 102 #[.val (.ref b0), .val (.ref b1), .val (.ref b1)] [(.long j15), (.long j7)]) t → S0 t := fun t k => p62 t (st63 t k)
        have p65 : ∀ t, St p e below T63 (mkF m 103 #[.val (.ref b0), .val (.ref b1), .val (.ref b1)] [(.int (lcmpW j7 j15))]) t → S0 t := fun t k => p64 t (by
          refine XS.lcmp X63.here hx rfl (hb hby d6_102) rfl ?_
          exact k)
        by_cases g66 : j7 = j15
        ·
         have p67 : ∀ t, St p e below T63 (mkF m 111 #[.val (.ref b0), .val (.ref b1), .val (.ref b1)] [(.int (1 : Int32))]) t → S0 t := fun t k => p65 t (by
           refine XS.ifNo X63.here hx rfl (hb hby d6_103) rfl ((if0 _ _).trans (teq ((lw_eq _ _).mpr g66)).2) ?_
           refine XT.iconstV X63.here hx rfl (1 : Int32) (hb hby d6_106) (by decide) ?_
           refine XS.goto X63.here hx rfl (pc0 := 107) (pc' := 111) rfl (hb hby d6_107) (by decide) (by decide) ?_
           exact k)
         obtain ⟨fs, hr, hrun, hended, hW, hsame⟩ := X63.leave (v := some (.int (1 : Int32))) (fun h => by rw [Bd.returns] at h; cases h)
         refine ⟨_, _, p67 _ ?_, hrun, hended, _, _, rfl, ?_, ⟨_, rfl⟩, hW, hsame.mono (by decide) (by decide)⟩
         · exact retOut X63 hx Bd.returns rfl (Or.inl ⟨rfl, by simp, _, rfl⟩) (hb hby d6_111) hr
         · show Q6_8 Z a_cache clC i0 i1 j2 i3 i4 j5 j6 j7 i8 i9 j10 i11 i12 j13 j14 j15 b0 b1 h0 n0 _ T63.heap _
           exact ⟨N0, e63, (congrArg (fun z => some (Value.int z)) (by unfold own_eq8; (repeat' split) <;> first | rfl | contradiction | (simp_all; done) : (1 : Int32) = (own_eq8 i0 i1 j2 i3 i4 j5 j6 j7 i8 i9 j10 i11 i12 j13 j14 j15)))⟩
        ·
         have p68 : ∀ t, St p e below T63 (mkF m 111 #[.val (.ref b0), .val (.ref b1), .val (.ref b1)] [(.int (0 : Int32))]) t → S0 t := fun t k => p65 t (by
           refine XS.ifYes X63.here hx rfl (pc0 := 103) (pc' := 110) rfl (hb hby d6_103) rfl ((if0 _ _).trans (feq (mt (lw_eq _ _).mp g66)).2) (by decide) (by decide) ?_
           refine XT.iconstV X63.here hx rfl (0 : Int32) (hb hby d6_110) (by decide) ?_
           exact k)
         obtain ⟨fs, hr, hrun, hended, hW, hsame⟩ := X63.leave (v := some (.int (0 : Int32))) (fun h => by rw [Bd.returns] at h; cases h)
         refine ⟨_, _, p68 _ ?_, hrun, hended, _, _, rfl, ?_, ⟨_, rfl⟩, hW, hsame.mono (by decide) (by decide)⟩
         · exact retOut X63 hx Bd.returns rfl (Or.inl ⟨rfl, by simp, _, rfl⟩) (hb hby d6_111) hr
         · show Q6_8 Z a_cache clC i0 i1 j2 i3 i4 j5 j6 j7 i8 i9 j10 i11 i12 j13 j14 j15 b0 b1 h0 n0 _ T63.heap _
           exact ⟨N0, e63, (congrArg (fun z => some (Value.int z)) (by unfold own_eq8; (repeat' split) <;> first | rfl | contradiction | (simp_all; done) : (0 : Int32) = (own_eq8 i0 i1 j2 i3 i4 j5 j6 j7 i8 i9 j10 i11 i12 j13 j14 j15)))⟩
       ·
        have p69 : ∀ t, St p e below T55 (mkF m 111 #[.val (.ref b0), .val (.ref b1), .val (.ref b1)] [(.int (0 : Int32))]) t → S0 t := fun t k => p57 t (by
          refine XS.ifYes X55.here hx rfl (pc0 := 91) (pc' := 110) rfl (hb hby d6_91) rfl ((if0 _ _).trans (feq (mt (lw_eq _ _).mp g58)).2) (by decide) (by decide) ?_
          refine XT.iconstV X55.here hx rfl (0 : Int32) (hb hby d6_110) (by decide) ?_
          exact k)
        obtain ⟨fs, hr, hrun, hended, hW, hsame⟩ := X55.leave (v := some (.int (0 : Int32))) (fun h => by rw [Bd.returns] at h; cases h)
        refine ⟨_, _, p69 _ ?_, hrun, hended, _, _, rfl, ?_, ⟨_, rfl⟩, hW, hsame.mono (by decide) (by decide)⟩
        · exact retOut X55 hx Bd.returns rfl (Or.inl ⟨rfl, by simp, _, rfl⟩) (hb hby d6_111) hr
        · show Q6_8 Z a_cache clC i0 i1 j2 i3 i4 j5 j6 j7 i8 i9 j10 i11 i12 j13 j14 j15 b0 b1 h0 n0 _ T55.heap _
          exact ⟨N0, e55, (congrArg (fun z => some (Value.int z)) (by unfold own_eq8; (repeat' split) <;> first | rfl | contradiction | (simp_all; done) : (0 : Int32) = (own_eq8 i0 i1 j2 i3 i4 j5 j6 j7 i8 i9 j10 i11 i12 j13 j14 j15)))⟩
      ·
       have p70 : ∀ t, St p e below T47 (mkF m 111 #[.val (.ref b0), .val (.ref b1), .val (.ref b1)] [(.int (0 : Int32))]) t → S0 t := fun t k => p49 t (by
         refine XS.ifYes X47.here hx rfl (pc0 := 79) (pc' := 110) rfl (hb hby d6_79) rfl ((if0 _ _).trans (feq (mt (lw_eq _ _).mp g50)).2) (by decide) (by decide) ?_
         refine XT.iconstV X47.here hx rfl (0 : Int32) (hb hby d6_110) (by decide) ?_
         exact k)
       obtain ⟨fs, hr, hrun, hended, hW, hsame⟩ := X47.leave (v := some (.int (0 : Int32))) (fun h => by rw [Bd.returns] at h; cases h)
       refine ⟨_, _, p70 _ ?_, hrun, hended, _, _, rfl, ?_, ⟨_, rfl⟩, hW, hsame.mono (by decide) (by decide)⟩
       · exact retOut X47 hx Bd.returns rfl (Or.inl ⟨rfl, by simp, _, rfl⟩) (hb hby d6_111) hr
       · show Q6_8 Z a_cache clC i0 i1 j2 i3 i4 j5 j6 j7 i8 i9 j10 i11 i12 j13 j14 j15 b0 b1 h0 n0 _ T47.heap _
         exact ⟨N0, e47, (congrArg (fun z => some (Value.int z)) (by unfold own_eq8; (repeat' split) <;> first | rfl | contradiction | (simp_all; done) : (0 : Int32) = (own_eq8 i0 i1 j2 i3 i4 j5 j6 j7 i8 i9 j10 i11 i12 j13 j14 j15)))⟩
     ·
      have p71 : ∀ t, St p e below T40 (mkF m 111 #[.val (.ref b0), .val (.ref b1), .val (.ref b1)] [(.int (0 : Int32))]) t → S0 t := fun t k => p41 t (by
        refine XS.icmpYes X40.here hx rfl (pc0 := 67) (pc' := 110) rfl (hb hby d6_67) rfl (feq g42).2 (by decide) (by decide) ?_
        refine XT.iconstV X40.here hx rfl (0 : Int32) (hb hby d6_110) (by decide) ?_
        exact k)
      obtain ⟨fs, hr, hrun, hended, hW, hsame⟩ := X40.leave (v := some (.int (0 : Int32))) (fun h => by rw [Bd.returns] at h; cases h)
      refine ⟨_, _, p71 _ ?_, hrun, hended, _, _, rfl, ?_, ⟨_, rfl⟩, hW, hsame.mono (by decide) (by decide)⟩
      · exact retOut X40 hx Bd.returns rfl (Or.inl ⟨rfl, by simp, _, rfl⟩) (hb hby d6_111) hr
      · show Q6_8 Z a_cache clC i0 i1 j2 i3 i4 j5 j6 j7 i8 i9 j10 i11 i12 j13 j14 j15 b0 b1 h0 n0 _ T40.heap _
        exact ⟨N0, e40, (congrArg (fun z => some (Value.int z)) (by unfold own_eq8; (repeat' split) <;> first | rfl | contradiction | (simp_all; done) : (0 : Int32) = (own_eq8 i0 i1 j2 i3 i4 j5 j6 j7 i8 i9 j10 i11 i12 j13 j14 j15)))⟩
    ·
     have p72 : ∀ t, St p e below T33 (mkF m 111 #[.val (.ref b0), .val (.ref b1), .val (.ref b1)] [(.int (0 : Int32))]) t → S0 t := fun t k => p34 t (by
       refine XS.icmpYes X33.here hx rfl (pc0 := 56) (pc' := 110) rfl (hb hby d6_56) rfl (feq g35).2 (by decide) (by decide) ?_
       refine XT.iconstV X33.here hx rfl (0 : Int32) (hb hby d6_110) (by decide) ?_
       exact k)
     obtain ⟨fs, hr, hrun, hended, hW, hsame⟩ := X33.leave (v := some (.int (0 : Int32))) (fun h => by rw [Bd.returns] at h; cases h)
     refine ⟨_, _, p72 _ ?_, hrun, hended, _, _, rfl, ?_, ⟨_, rfl⟩, hW, hsame.mono (by decide) (by decide)⟩
     · exact retOut X33 hx Bd.returns rfl (Or.inl ⟨rfl, by simp, _, rfl⟩) (hb hby d6_111) hr
     · show Q6_8 Z a_cache clC i0 i1 j2 i3 i4 j5 j6 j7 i8 i9 j10 i11 i12 j13 j14 j15 b0 b1 h0 n0 _ T33.heap _
       exact ⟨N0, e33, (congrArg (fun z => some (Value.int z)) (by unfold own_eq8; (repeat' split) <;> first | rfl | contradiction | (simp_all; done) : (0 : Int32) = (own_eq8 i0 i1 j2 i3 i4 j5 j6 j7 i8 i9 j10 i11 i12 j13 j14 j15)))⟩
   ·
    have p73 : ∀ t, St p e below T25 (mkF m 111 #[.val (.ref b0), .val (.ref b1), .val (.ref b1)] [(.int (0 : Int32))]) t → S0 t := fun t k => p27 t (by
      refine XS.ifYes X25.here hx rfl (pc0 := 45) (pc' := 110) rfl (hb hby d6_45) rfl ((if0 _ _).trans (feq (mt (lw_eq _ _).mp g28)).2) (by decide) (by decide) ?_
      refine XT.iconstV X25.here hx rfl (0 : Int32) (hb hby d6_110) (by decide) ?_
      exact k)
    obtain ⟨fs, hr, hrun, hended, hW, hsame⟩ := X25.leave (v := some (.int (0 : Int32))) (fun h => by rw [Bd.returns] at h; cases h)
    refine ⟨_, _, p73 _ ?_, hrun, hended, _, _, rfl, ?_, ⟨_, rfl⟩, hW, hsame.mono (by decide) (by decide)⟩
    · exact retOut X25 hx Bd.returns rfl (Or.inl ⟨rfl, by simp, _, rfl⟩) (hb hby d6_111) hr
    · show Q6_8 Z a_cache clC i0 i1 j2 i3 i4 j5 j6 j7 i8 i9 j10 i11 i12 j13 j14 j15 b0 b1 h0 n0 _ T25.heap _
      exact ⟨N0, e25, (congrArg (fun z => some (Value.int z)) (by unfold own_eq8; (repeat' split) <;> first | rfl | contradiction | (simp_all; done) : (0 : Int32) = (own_eq8 i0 i1 j2 i3 i4 j5 j6 j7 i8 i9 j10 i11 i12 j13 j14 j15)))⟩
  ·
   have p74 : ∀ t, St p e below T18 (mkF m 111 #[.val (.ref b0), .val (.ref b1), .val (.ref b1)] [(.int (0 : Int32))]) t → S0 t := fun t k => p19 t (by
     refine XS.icmpYes X18.here hx rfl (pc0 := 33) (pc' := 110) rfl (hb hby d6_33) rfl (feq g20).2 (by decide) (by decide) ?_
     refine XT.iconstV X18.here hx rfl (0 : Int32) (hb hby d6_110) (by decide) ?_
     exact k)
   obtain ⟨fs, hr, hrun, hended, hW, hsame⟩ := X18.leave (v := some (.int (0 : Int32))) (fun h => by rw [Bd.returns] at h; cases h)
   refine ⟨_, _, p74 _ ?_, hrun, hended, _, _, rfl, ?_, ⟨_, rfl⟩, hW, hsame.mono (by decide) (by decide)⟩
   · exact retOut X18 hx Bd.returns rfl (Or.inl ⟨rfl, by simp, _, rfl⟩) (hb hby d6_111) hr
   · show Q6_8 Z a_cache clC i0 i1 j2 i3 i4 j5 j6 j7 i8 i9 j10 i11 i12 j13 j14 j15 b0 b1 h0 n0 _ T18.heap _
     exact ⟨N0, e18, (congrArg (fun z => some (Value.int z)) (by unfold own_eq8; (repeat' split) <;> first | rfl | contradiction | (simp_all; done) : (0 : Int32) = (own_eq8 i0 i1 j2 i3 i4 j5 j6 j7 i8 i9 j10 i11 i12 j13 j14 j15)))⟩
 ·
  have p75 : ∀ t, St p e below T11 (mkF m 111 #[.val (.ref b0), .val (.ref b1), .val (.ref b1)] [(.int (0 : Int32))]) t → S0 t := fun t k => p12 t (by
    refine XS.icmpYes X11.here hx rfl (pc0 := 22) (pc' := 110) rfl (hb hby d6_22) rfl (feq g13).2 (by decide) (by decide) ?_
    refine XT.iconstV X11.here hx rfl (0 : Int32) (hb hby d6_110) (by decide) ?_
    exact k)
  obtain ⟨fs, hr, hrun, hended, hW, hsame⟩ := X11.leave (v := some (.int (0 : Int32))) (fun h => by rw [Bd.returns] at h; cases h)
  refine ⟨_, _, p75 _ ?_, hrun, hended, _, _, rfl, ?_, ⟨_, rfl⟩, hW, hsame.mono (by decide) (by decide)⟩
  · exact retOut X11 hx Bd.returns rfl (Or.inl ⟨rfl, by simp, _, rfl⟩) (hb hby d6_111) hr
  · show Q6_8 Z a_cache clC i0 i1 j2 i3 i4 j5 j6 j7 i8 i9 j10 i11 i12 j13 j14 j15 b0 b1 h0 n0 _ T11.heap _
    exact ⟨N0, e11, (congrArg (fun z => some (Value.int z)) (by unfold own_eq8; (repeat' split) <;> first | rfl | contradiction | (simp_all; done) : (0 : Int32) = (own_eq8 i0 i1 j2 i3 i4 j5 j6 j7 i8 i9 j10 i11 i12 j13 j14 j15)))⟩
theorem pd6 : parseMethodDescriptor "(Ljava/lang/Object;)Z" = some ⟨[(.object "java/lang/Object")], some .boolean⟩ := by decide +kernel
def Q6_9 (Z : State) (a_cache : Addr) (clC : Cell) (i0 : Int32) (i1 : Int32) (j2 : Int64) (i3 : Int32) (i4 : Int32) (j5 : Int64) (j6 : Int64) (j7 : Int64) (b0 : Addr) (h0 : Heap) (n0 : Nat) (v : Option Value) (h : Heap) (L : List Loc) : Prop := Fr n0 L ∧ h = h0 ∧ ((v = some (.int (1 : Int32))))
set_option maxRecDepth 65536 in
set_option maxHeartbeats 40000000 in
theorem rm6_9 (l : Launch) (Z : State) (a0 : Array Value) (hw : ∀ d ∈ tables_1, d.before a0 Z = true) (ws : List Jvm.Cond) (a_cache : Addr) (clC : Cell) (i0 : Int32) (i1 : Int32) (j2 : Int64) (i3 : Int32) (i4 : Int32) (j5 : Int64) (j6 : Int64) (j7 : Int64) (b0 : Addr) (h0 : Heap) (n0 : Nat) (O0 : Old Z n0 h0) (HE : Env1 Z a_cache clC) (g_b0 : n0 ≤ b0) (f0 : Exa Z h0 b0 "com/example/vacant_throne/vacantthrone/core/Heartbeat") (f1 : Fld Z h0 b0 "com/example/vacant_throne/vacantthrone/core/Heartbeat" "reveal" "Z" (.int i0)) (f2 : Fld Z h0 b0 "com/example/vacant_throne/vacantthrone/core/Heartbeat" "set" "I" (.int i1)) (f3 : Fld Z h0 b0 "com/example/vacant_throne/vacantthrone/core/Heartbeat" "sender" "J" (.long j2)) (f4 : Fld Z h0 b0 "com/example/vacant_throne/vacantthrone/core/Heartbeat" "priority" "I" (.int i3)) (f5 : Fld Z h0 b0 "com/example/vacant_throne/vacantthrone/core/Heartbeat" "periodMs" "I" (.int i4)) (f6 : Fld Z h0 b0 "com/example/vacant_throne/vacantthrone/core/Heartbeat" "handOverTarget" "J" (.long j5)) (f7 : Fld Z h0 b0 "com/example/vacant_throne/vacantthrone/core/Heartbeat" "incarnation" "J" (.long j6)) (f8 : Fld Z h0 b0 "com/example/vacant_throne/vacantthrone/core/Heartbeat" "sequence" "J" (.long j7)) :
    MetFree l M6 (head1 (Jvm.Cond.code M6 prog_8_method_12_code 3 (some .boolean) :: ws) ({ frames := 0, cells := 0, slots := 0, locals := 0 } : Room)) (fun a U => a = #[(.ref b0), (.ref b0)] ∧ Z.Warmed39 U.vm ∧ U.heap = h0) (fun _ _ _ _ _ => True) (fun _ U o U' => ∃ v L, o = .returned v ∧ Q6_9 Z a_cache clC i0 i1 j2 i3 i4 j5 j6 j7 b0 h0 n0 v U'.heap L ∧ FrameEnd U o U' L ({ frames := 0, cells := 0, slots := 0, locals := 0 } : Room).cells ({ frames := 0, cells := 0, slots := 0, locals := 0 } : Room).slots) := by
 refine MetFree.of_bodySF (plainFor_of_name pn1) hisR ?_
 intro p e s m args below meth c s₁ Bd hml0 hP hK
 obtain ⟨rfl, hZ, hh⟩ := hP
 have hx := Bd.exec
 have hby := Bd.bytes
 have hml : c.maxLocals = 3 := hml0
 have hown : s.vm.findClass "com/example/vacant_throne/vacantthrone/core/Heartbeat" = some m.cls := findClass_of_methodNamed Bd.named
 have hnm := (name_of_methodNamed Bd.named Bd.method).1
 have X0 : Stand p l e ({ frames := 0, cells := 0, slots := 0, locals := 0 } : Room) s m #[(.ref b0), (.ref b0)] below meth c s₁ [] 0 0 := Stand.of_body Bd
 have e0 : s₁.heap = h0 := by rw [← hh, Bd.state]; rfl
 have N0 := Fr.nil n0
 let S0 : State → Prop := fun t => Steps p.tables e below (s₁.setTop (entryFrame m #[(.ref b0), (.ref b0)] 3)) t
 have p0 : ∀ t, St p e below s₁ (mkF m 0 #[.val (.ref b0), .val (.ref b0), .unset] []) t → S0 t := fun t k => castTop (ef7 m b0 b0) k
 have HE' := HE
 obtain ⟨Scache, RC, ZC, TC⟩ := HE
 have p1 : ∀ t, St p e below s₁ (mkF m 1 #[.val (.ref b0), .val (.ref b0), .unset] [(.ref b0)]) t → S0 t := fun t k => p0 t (by
   refine XS.aloadN X0.here hx rfl (hb hby d6_0) rfl rfl ?_
   exact k)
 obtain ⟨T2, X2, e2, st2⟩ := instY X0 hx hZ hown (ww hw 67 rfl) e0 (Ins.self f0) (g := (mkF m 1 #[.val (.ref b0), .val (.ref b0), .unset] [(.ref b0)])) rfl rfl (hb hby d6_1)
 have p3 : ∀ t, St p e below T2 (mkF m 4 #[.val (.ref b0), .val (.ref b0), .unset] [(.int (1 : Int32))]) t → S0 t := fun t k => p1 t (st2 t k)
 have p4 : ∀ t, St p e below T2 (mkF m 10 #[.val (.ref b0), .val (.ref b0), .unset] [(.ref b0)]) t → S0 t := fun t k => p3 t (by
   refine XS.ifYes X2.here hx rfl (pc0 := 4) (pc' := 9) rfl (hb hby d6_4) rfl ((if0 _ _).trans (feq (by decide : ¬ ((1 : Int32) = (0 : Int32)))).2) (by decide) (by decide) ?_
   refine XS.aloadN X2.here hx rfl (hb hby d6_9) rfl rfl ?_
   exact k)
 obtain ⟨T5, X5, e5, st5⟩ := castY X2 hx hZ hown (ww hw 67 rfl) e2 (Ins.self f0) (g := (mkF m 10 #[.val (.ref b0), .val (.ref b0), .unset] [(.ref b0)])) rfl rfl (hb hby d6_10)
 have p6 : ∀ t, St p e below T5 (mkF m 13 #[.val (.ref b0), .val (.ref b0), .unset] [(.ref b0)]) t → S0 t := fun t k => p4 t (st5 t k)
 have p7 : ∀ t, St p e below T5 (mkF m 15 #[.val (.ref b0), .val (.ref b0), .val (.ref b0)] [(.ref b0)]) t → S0 t := fun t k => p6 t (by
   refine XS.astoreN X5.here hx rfl (hb hby d6_13) rfl rfl (l' := #[.val (.ref b0), .val (.ref b0), .val (.ref b0)]) rfl ?_
   refine XS.aloadN X5.here hx rfl (hb hby d6_14) rfl rfl ?_
   exact k)
 obtain ⟨T8, X8, e8, st8⟩ := getF X5 hx hZ hown (host := "") (Or.inl (ww hw 19 rfl)) Via.refl e5 f1 (g := (mkF m 15 #[.val (.ref b0), .val (.ref b0), .val (.ref b0)] [(.ref b0)])) rfl rfl (hb hby d6_15)
 have p9 : ∀ t, St p e below T8 (mkF m 18 #[.val (.ref b0), .val (.ref b0), .val (.ref b0)] [(.int i0)]) t → S0 t := fun t k => p7 t (st8 t k)
 have p10 : ∀ t, St p e below T8 (mkF m 19 #[.val (.ref b0), .val (.ref b0), .val (.ref b0)] [(.ref b0), (.int i0)]) t → S0 t := fun t k => p9 t (by
   refine XS.aloadN X8.here hx rfl (hb hby d6_18) rfl rfl ?_
   exact k)
 obtain ⟨T11, X11, e11, st11⟩ := getF X8 hx hZ hown (host := "") (Or.inl (ww hw 19 rfl)) Via.refl e8 f1 (g := (mkF m 19 #[.val (.ref b0), .val (.ref b0), .val (.ref b0)] [(.ref b0), (.int i0)])) rfl rfl (hb hby d6_19)
 have p12 : ∀ t, St p e below T11 (mkF m 22 #[.val (.ref b0), .val (.ref b0), .val (.ref b0)] [(.int i0), (.int i0)]) t → S0 t := fun t k => p10 t (st11 t k)
 have p13 : ∀ t, St p e below T11 (mkF m 26 #[.val (.ref b0), .val (.ref b0), .val (.ref b0)] [(.ref b0)]) t → S0 t := fun t k => p12 t (by
   refine XS.icmpNo X11.here hx rfl (hb hby d6_22) rfl (teq (rfl : i0 = i0)).2 ?_
   refine XS.aloadN X11.here hx rfl (hb hby d6_25) rfl rfl ?_
   exact k)
 obtain ⟨T14, X14, e14, st14⟩ := getF X11 hx hZ hown (host := "") (Or.inl (ww hw 34 rfl)) Via.refl e11 f2 (g := (mkF m 26 #[.val (.ref b0), .val (.ref b0), .val (.ref b0)] [(.ref b0)])) rfl rfl (hb hby d6_26)
 have p15 : ∀ t, St p e below T14 (mkF m 29 #[.val (.ref b0), .val (.ref b0), .val (.ref b0)] [(.int i1)]) t → S0 t := fun t k => p13 t (st14 t k)
 have p16 : ∀ t, St p e below T14 (mkF m 30 #[.val (.ref b0), .val (.ref b0), .val (.ref b0)] [(.ref b0), (.int i1)]) t → S0 t := fun t k => p15 t (by
   refine XS.aloadN X14.here hx rfl (hb hby d6_29) rfl rfl ?_
   exact k)
 obtain ⟨T17, X17, e17, st17⟩ := getF X14 hx hZ hown (host := "") (Or.inl (ww hw 34 rfl)) Via.refl e14 f2 (g := (mkF m 30 #[.val (.ref b0), .val (.ref b0), .val (.ref b0)] [(.ref b0), (.int i1)])) rfl rfl (hb hby d6_30)
 have p18 : ∀ t, St p e below T17 (mkF m 33 #[.val (.ref b0), .val (.ref b0), .val (.ref b0)] [(.int i1), (.int i1)]) t → S0 t := fun t k => p16 t (st17 t k)
 have p19 : ∀ t, St p e below T17 (mkF m 37 #[.val (.ref b0), .val (.ref b0), .val (.ref b0)] [(.ref b0)]) t → S0 t := fun t k => p18 t (by
   refine XS.icmpNo X17.here hx rfl (hb hby d6_33) rfl (teq (rfl : i1 = i1)).2 ?_
   refine XS.aloadN X17.here hx rfl (hb hby d6_36) rfl rfl ?_
   exact k)
 obtain ⟨T20, X20, e20, st20⟩ := getF X17 hx hZ hown (host := "") (Or.inl (ww hw 38 rfl)) Via.refl e17 f3 (g := (mkF m 37 #[.val (.ref b0), .val (.ref b0), .val (.ref b0)] [(.ref b0)])) rfl rfl (hb hby d6_37)
 have p21 : ∀ t, St p e below T20 (mkF m 40 #[.val (.ref b0), .val (.ref b0), .val (.ref b0)] [(.long j2)]) t → S0 t := fun t k => p19 t (st20 t k)
 have p22 : ∀ t, St p e below T20 (mkF m 41 #[.val (.ref b0), .val (.ref b0), .val (.ref b0)] [(.ref b0), (.long j2)]) t → S0 t := fun t k => p21 t (by
   refine XS.aloadN X20.here hx rfl (hb hby d6_40) rfl rfl ?_
   exact k)
 obtain ⟨T23, X23, e23, st23⟩ := getF X20 hx hZ hown (host := "") (Or.inl (ww hw 38 rfl)) Via.refl e20 f3 (g := (mkF m 41 #[.val (.ref b0), .val (.ref b0), .val (.ref b0)] [(.ref b0), (.long j2)])) rfl rfl (hb hby d6_41)
 have p24 : ∀ t, St p e below T23 (mkF m 44 #[.val (.ref b0), .val (.ref b0), .val (.ref b0)] [(.long j2), (.long j2)]) t → S0 t := fun t k => p22 t (st23 t k)
 have p25 : ∀ t, St p e below T23 (mkF m 49 #[.val (.ref b0), .val (.ref b0), .val (.ref b0)] [(.ref b0)]) t → S0 t := fun t k => p24 t (by
   refine XS.lcmp X23.here hx rfl (hb hby d6_44) rfl ?_
   refine XS.ifNo X23.here hx rfl (hb hby d6_45) rfl ((if0 _ _).trans (teq ((lw_eq _ _).mpr (rfl : j2 = j2))).2) ?_
   refine XS.aloadN X23.here hx rfl (hb hby d6_48) rfl rfl ?_
   exact k)
 obtain ⟨T26, X26, e26, st26⟩ := getF X23 hx hZ hown (host := "") (Or.inl (ww hw 41 rfl)) Via.refl e23 f4 (g := (mkF m 49 #[.val (.ref b0), .val (.ref b0), .val (.ref b0)] [(.ref b0)])) rfl rfl (hb hby d6_49)
 have p27 : ∀ t, St p e below T26 (mkF m 52 #[.val (.ref b0), .val (.ref b0), .val (.ref b0)] [(.int i3)]) t → S0 t := fun t k => p25 t (st26 t k)
 have p28 : ∀ t, St p e below T26 (mkF m 53 #[.val (.ref b0), .val (.ref b0), .val (.ref b0)] [(.ref b0), (.int i3)]) t → S0 t := fun t k => p27 t (by
   refine XS.aloadN X26.here hx rfl (hb hby d6_52) rfl rfl ?_
   exact k)
 obtain ⟨T29, X29, e29, st29⟩ := getF X26 hx hZ hown (host := "") (Or.inl (ww hw 41 rfl)) Via.refl e26 f4 (g := (mkF m 53 #[.val (.ref b0), .val (.ref b0), .val (.ref b0)] [(.ref b0), (.int i3)])) rfl rfl (hb hby d6_53)
 have p30 : ∀ t, St p e below T29 (mkF m 56 #[.val (.ref b0), .val (.ref b0), .val (.ref b0)] [(.int i3), (.int i3)]) t → S0 t := fun t k => p28 t (st29 t k)
 have p31 : ∀ t, St p e below T29 (mkF m 60 #[.val (.ref b0), .val (.ref b0), .val (.ref b0)] [(.ref b0)]) t → S0 t := fun t k => p30 t (by
   refine XS.icmpNo X29.here hx rfl (hb hby d6_56) rfl (teq (rfl : i3 = i3)).2 ?_
   refine XS.aloadN X29.here hx rfl (hb hby d6_59) rfl rfl ?_
   exact k)
 obtain ⟨T32, X32, e32, st32⟩ := getF X29 hx hZ hown (host := "") (Or.inl (ww hw 44 rfl)) Via.refl e29 f5 (g := (mkF m 60 #[.val (.ref b0), .val (.ref b0), .val (.ref b0)] [(.ref b0)])) rfl rfl (hb hby d6_60)
 have p33 : ∀ t, St p e below T32 (mkF m 63 #[.val (.ref b0), .val (.ref b0), .val (.ref b0)] [(.int i4)]) t → S0 t := fun t k => p31 t (st32 t k)
 have p34 : ∀ t, St p e below T32 (mkF m 64 #[.val (.ref b0), .val (.ref b0), .val (.ref b0)] [(.ref b0), (.int i4)]) t → S0 t := fun t k => p33 t (by
   refine XS.aloadN X32.here hx rfl (hb hby d6_63) rfl rfl ?_
   exact k)
 obtain ⟨T35, X35, e35, st35⟩ := getF X32 hx hZ hown (host := "") (Or.inl (ww hw 44 rfl)) Via.refl e32 f5 (g := (mkF m 64 #[.val (.ref b0), .val (.ref b0), .val (.ref b0)] [(.ref b0), (.int i4)])) rfl rfl (hb hby d6_64)
 have p36 : ∀ t, St p e below T35 (mkF m 67 #[.val (.ref b0), .val (.ref b0), .val (.ref b0)] [(.int i4), (.int i4)]) t → S0 t := fun t k => p34 t (st35 t k)
 have p37 : ∀ t, St p e below T35 (mkF m 71 #[.val (.ref b0), .val (.ref b0), .val (.ref b0)] [(.ref b0)]) t → S0 t := fun t k => p36 t (by
   refine XS.icmpNo X35.here hx rfl (hb hby d6_67) rfl (teq (rfl : i4 = i4)).2 ?_
   refine XS.aloadN X35.here hx rfl (hb hby d6_70) rfl rfl ?_
   exact k)
 obtain ⟨T38, X38, e38, st38⟩ := getF X35 hx hZ hown (host := "") (Or.inl (ww hw 47 rfl)) Via.refl e35 f6 (g := (mkF m 71 #[.val (.ref b0), .val (.ref b0), .val (.ref b0)] [(.ref b0)])) rfl rfl (hb hby d6_71)
 have p39 : ∀ t, St p e below T38 (mkF m 74 #[.val (.ref b0), .val (.ref b0), .val (.ref b0)] [(.long j5)]) t → S0 t := fun t k => p37 t (st38 t k)
 have p40 : ∀ t, St p e below T38 (mkF m 75 #[.val (.ref b0), .val (.ref b0), .val (.ref b0)] [(.ref b0), (.long j5)]) t → S0 t := fun t k => p39 t (by
   refine XS.aloadN X38.here hx rfl (hb hby d6_74) rfl rfl ?_
   exact k)
 obtain ⟨T41, X41, e41, st41⟩ := getF X38 hx hZ hown (host := "") (Or.inl (ww hw 47 rfl)) Via.refl e38 f6 (g := (mkF m 75 #[.val (.ref b0), .val (.ref b0), .val (.ref b0)] [(.ref b0), (.long j5)])) rfl rfl (hb hby d6_75)
 have p42 : ∀ t, St p e below T41 (mkF m 78 #[.val (.ref b0), .val (.ref b0), .val (.ref b0)] [(.long j5), (.long j5)]) t → S0 t := fun t k => p40 t (st41 t k)
 have p43 : ∀ t, St p e below T41 (mkF m 83 #[.val (.ref b0), .val (.ref b0), .val (.ref b0)] [(.ref b0)]) t → S0 t := fun t k => p42 t (by
   refine XS.lcmp X41.here hx rfl (hb hby d6_78) rfl ?_
   refine XS.ifNo X41.here hx rfl (hb hby d6_79) rfl ((if0 _ _).trans (teq ((lw_eq _ _).mpr (rfl : j5 = j5))).2) ?_
   refine XS.aloadN X41.here hx rfl (hb hby d6_82) rfl rfl ?_
   exact k)
 obtain ⟨T44, X44, e44, st44⟩ := getF X41 hx hZ hown (host := "") (Or.inl (ww hw 49 rfl)) Via.refl e41 f7 (g := (mkF m 83 #[.val (.ref b0), .val (.ref b0), .val (.ref b0)] [(.ref b0)])) rfl rfl (hb hby d6_83)
 have p45 : ∀ t, St p e below T44 (mkF m 86 #[.val (.ref b0), .val (.ref b0), .val (.ref b0)] [(.long j6)]) t → S0 t := fun t k => p43 t (st44 t k)
 have p46 : ∀ t, St p e below T44 (mkF m 87 #[.val (.ref b0), .val (.ref b0), .val (.ref b0)] [(.ref b0), (.long j6)]) t → S0 t := fun t k => p45 t (by
   refine XS.aloadN X44.here hx rfl (hb hby d6_86) rfl rfl ?_
   exact k)
 obtain ⟨T47, X47, e47, st47⟩ := getF X44 hx hZ hown (host := "") (Or.inl (ww hw 49 rfl)) Via.refl e44 f7 (g := (mkF m 87 #[.val (.ref b0), .val (.ref b0), .val (.ref b0)] [(.ref b0), (.long j6)])) rfl rfl (hb hby d6_87)
 have p48 : ∀ t, St p e below T47 (mkF m 90 #[.val (.ref b0), .val (.ref b0), .val (.ref b0)] [(.long j6), (.long j6)]) t → S0 t := fun t k => p46 t (st47 t k)
 have p49 : ∀ t, St p e below T47 (mkF m 95 #[.val (.ref b0), .val (.ref b0), .val (.ref b0)] [(.ref b0)]) t → S0 t := fun t k => p48 t (by
   refine XS.lcmp X47.here hx rfl (hb hby d6_90) rfl ?_
   refine XS.ifNo X47.here hx rfl (hb hby d6_91) rfl ((if0 _ _).trans (teq ((lw_eq _ _).mpr (rfl : j6 = j6))).2) ?_
   refine XS.aloadN X47.here hx rfl (hb hby d6_94) rfl rfl ?_
   exact k)
 obtain ⟨T50, X50, e50, st50⟩ := getF X47 hx hZ hown (host := "") (Or.inl (ww hw 52 rfl)) Via.refl e47 f8 (g := (mkF m 95 #[.val (.ref b0), .val (.ref b0), .val (.ref b0)] [(.ref b0)])) rfl rfl (hb hby d6_95)
 have p51 : ∀ t, St p e below T50 (mkF m 98 #[.val (.ref b0), .val (.ref b0), .val (.ref b0)] [(.long j7)]) t → S0 t := fun t k => p49 t (st50 t k)
 have p52 : ∀ t, St p e below T50 (mkF m 99 #[.val (.ref b0), .val (.ref b0), .val (.ref b0)] [(.ref b0), (.long j7)]) t → S0 t := fun t k => p51 t (by
   refine XS.aloadN X50.here hx rfl (hb hby d6_98) rfl rfl ?_
   exact k)
 obtain ⟨T53, X53, e53, st53⟩ := getF X50 hx hZ hown (host := "") (Or.inl (ww hw 52 rfl)) Via.refl e50 f8 (g := (mkF m 99 #[.val (.ref b0), .val (.ref b0), .val (.ref b0)] [(.ref b0), (.long j7)])) rfl rfl (hb hby d6_99)
 have p54 : ∀ t, St p e below T53 (mkF m 102 #[.val (.ref b0), .val (.ref b0), .val (.ref b0)] [(.long j7), (.long j7)]) t → S0 t := fun t k => p52 t (st53 t k)
 have p55 : ∀ t, St p e below T53 (mkF m 111 #[.val (.ref b0), .val (.ref b0), .val (.ref b0)] [(.int (1 : Int32))]) t → S0 t := fun t k => p54 t (by
   refine XS.lcmp X53.here hx rfl (hb hby d6_102) rfl ?_
   refine XS.ifNo X53.here hx rfl (hb hby d6_103) rfl ((if0 _ _).trans (teq ((lw_eq _ _).mpr (rfl : j7 = j7))).2) ?_
   refine XT.iconstV X53.here hx rfl (1 : Int32) (hb hby d6_106) (by decide) ?_
   refine XS.goto X53.here hx rfl (pc0 := 107) (pc' := 111) rfl (hb hby d6_107) (by decide) (by decide) ?_
   exact k)
 obtain ⟨fs, hr, hrun, hended, hW, hsame⟩ := X53.leave (v := some (.int (1 : Int32))) (fun h => by rw [Bd.returns] at h; cases h)
 refine ⟨_, _, p55 _ ?_, hrun, hended, _, _, rfl, ?_, ⟨_, rfl⟩, hW, hsame.mono (by decide) (by decide)⟩
 · exact retOut X53 hx Bd.returns rfl (Or.inl ⟨rfl, by simp, _, rfl⟩) (hb hby d6_111) hr
 · show Q6_9 Z a_cache clC i0 i1 j2 i3 i4 j5 j6 j7 b0 h0 n0 _ T53.heap _
   exact ⟨N0, e53, rfl⟩
theorem ef8 (m : MethodId) (x0 : Addr) : entryFrame m #[(.ref x0), .null] 3 = mkF m 0 #[.val (.ref x0), .val .null, .unset] [] := by first | (simp [entryFrame, mkF, argsToLocals, Value.category]; done) | rfl
theorem d6_7 : decode prog_8_method_12_code 7 = .ok (.iconst 0, 1) := by decide +kernel
theorem d6_8 : decode prog_8_method_12_code 8 = .ok (.ireturn, 1) := by decide +kernel
def Q6_10 (Z : State) (a_cache : Addr) (clC : Cell) (i0 : Int32) (i1 : Int32) (j2 : Int64) (i3 : Int32) (i4 : Int32) (j5 : Int64) (j6 : Int64) (j7 : Int64) (b0 : Addr) (h0 : Heap) (n0 : Nat) (v : Option Value) (h : Heap) (L : List Loc) : Prop := Fr n0 L ∧ h = h0 ∧ ((v = some (.int (0 : Int32))))
set_option maxRecDepth 65536 in
set_option maxHeartbeats 40000000 in
theorem rm6_10 (l : Launch) (Z : State) (a0 : Array Value) (hw : ∀ d ∈ tables_1, d.before a0 Z = true) (ws : List Jvm.Cond) (a_cache : Addr) (clC : Cell) (i0 : Int32) (i1 : Int32) (j2 : Int64) (i3 : Int32) (i4 : Int32) (j5 : Int64) (j6 : Int64) (j7 : Int64) (b0 : Addr) (h0 : Heap) (n0 : Nat) (O0 : Old Z n0 h0) (HE : Env1 Z a_cache clC) (g_b0 : n0 ≤ b0) (f0 : Exa Z h0 b0 "com/example/vacant_throne/vacantthrone/core/Heartbeat") (f1 : Fld Z h0 b0 "com/example/vacant_throne/vacantthrone/core/Heartbeat" "reveal" "Z" (.int i0)) (f2 : Fld Z h0 b0 "com/example/vacant_throne/vacantthrone/core/Heartbeat" "set" "I" (.int i1)) (f3 : Fld Z h0 b0 "com/example/vacant_throne/vacantthrone/core/Heartbeat" "sender" "J" (.long j2)) (f4 : Fld Z h0 b0 "com/example/vacant_throne/vacantthrone/core/Heartbeat" "priority" "I" (.int i3)) (f5 : Fld Z h0 b0 "com/example/vacant_throne/vacantthrone/core/Heartbeat" "periodMs" "I" (.int i4)) (f6 : Fld Z h0 b0 "com/example/vacant_throne/vacantthrone/core/Heartbeat" "handOverTarget" "J" (.long j5)) (f7 : Fld Z h0 b0 "com/example/vacant_throne/vacantthrone/core/Heartbeat" "incarnation" "J" (.long j6)) (f8 : Fld Z h0 b0 "com/example/vacant_throne/vacantthrone/core/Heartbeat" "sequence" "J" (.long j7)) :
    MetFree l M6 (head1 (Jvm.Cond.code M6 prog_8_method_12_code 3 (some .boolean) :: ws) ({ frames := 0, cells := 0, slots := 0, locals := 0 } : Room)) (fun a U => a = #[(.ref b0), .null] ∧ Z.Warmed39 U.vm ∧ U.heap = h0) (fun _ _ _ _ _ => True) (fun _ U o U' => ∃ v L, o = .returned v ∧ Q6_10 Z a_cache clC i0 i1 j2 i3 i4 j5 j6 j7 b0 h0 n0 v U'.heap L ∧ FrameEnd U o U' L ({ frames := 0, cells := 0, slots := 0, locals := 0 } : Room).cells ({ frames := 0, cells := 0, slots := 0, locals := 0 } : Room).slots) := by
 refine MetFree.of_bodySF (plainFor_of_name pn1) hisR ?_
 intro p e s m args below meth c s₁ Bd hml0 hP hK
 obtain ⟨rfl, hZ, hh⟩ := hP
 have hx := Bd.exec
 have hby := Bd.bytes
 have hml : c.maxLocals = 3 := hml0
 have hown : s.vm.findClass "com/example/vacant_throne/vacantthrone/core/Heartbeat" = some m.cls := findClass_of_methodNamed Bd.named
 have hnm := (name_of_methodNamed Bd.named Bd.method).1
 have X0 : Stand p l e ({ frames := 0, cells := 0, slots := 0, locals := 0 } : Room) s m #[(.ref b0), .null] below meth c s₁ [] 0 0 := Stand.of_body Bd
 have e0 : s₁.heap = h0 := by rw [← hh, Bd.state]; rfl
 have N0 := Fr.nil n0
 let S0 : State → Prop := fun t => Steps p.tables e below (s₁.setTop (entryFrame m #[(.ref b0), .null] 3)) t
 have p0 : ∀ t, St p e below s₁ (mkF m 0 #[.val (.ref b0), .val .null, .unset] []) t → S0 t := fun t k => castTop (ef8 m b0) k
 have HE' := HE
 obtain ⟨Scache, RC, ZC, TC⟩ := HE
 have p1 : ∀ t, St p e below s₁ (mkF m 1 #[.val (.ref b0), .val .null, .unset] [.null]) t → S0 t := fun t k => p0 t (by
   refine XS.aloadN X0.here hx rfl (hb hby d6_0) rfl rfl ?_
   exact k)
 have p2 : ∀ t, St p e below s₁ (mkF m 4 #[.val (.ref b0), .val .null, .unset] [(.int (0 : Int32))]) t → S0 t := fun t k => p1 t (X0.instanceofNull hx (g := (mkF m 1 #[.val (.ref b0), .val .null, .unset] [.null])) rfl rfl (hb hby d6_1) t k)
 have p3 : ∀ t, St p e below s₁ (mkF m 8 #[.val (.ref b0), .val .null, .unset] [(.int (0 : Int32))]) t → S0 t := fun t k => p2 t (by
   refine XS.ifNo X0.here hx rfl (hb hby d6_4) rfl ((if0 _ _).trans (teq (by decide : (0 : Int32) = (0 : Int32))).2) ?_
   refine XT.iconstV X0.here hx rfl (0 : Int32) (hb hby d6_7) (by decide) ?_
   exact k)
 obtain ⟨fs, hr, hrun, hended, hW, hsame⟩ := X0.leave (v := some (.int (0 : Int32))) (fun h => by rw [Bd.returns] at h; cases h)
 refine ⟨_, _, p3 _ ?_, hrun, hended, _, _, rfl, ?_, ⟨_, rfl⟩, hW, hsame.mono (by decide) (by decide)⟩
 · exact retOut X0 hx Bd.returns rfl (Or.inl ⟨rfl, by simp, _, rfl⟩) (hb hby d6_8) hr
 · show Q6_10 Z a_cache clC i0 i1 j2 i3 i4 j5 j6 j7 b0 h0 n0 _ s₁.heap _
   exact ⟨N0, e0, rfl⟩
def Q6_11 (Z : State) (a_cache : Addr) (clC : Cell) (i0 : Int32) (i1 : Int32) (j2 : Int64) (i3 : Int32) (i4 : Int32) (j5 : Int64) (j6 : Int64) (j7 : Int64) (b0 : Addr) (b1 : Addr) (h0 : Heap) (n0 : Nat) (v : Option Value) (h : Heap) (L : List Loc) : Prop := Fr n0 L ∧ h = h0 ∧ ((v = some (.int (0 : Int32))))
set_option maxRecDepth 65536 in
set_option maxHeartbeats 40000000 in
theorem rm6_11 (l : Launch) (Z : State) (a0 : Array Value) (hw : ∀ d ∈ tables_1, d.before a0 Z = true) (ws : List Jvm.Cond) (a_cache : Addr) (clC : Cell) (i0 : Int32) (i1 : Int32) (j2 : Int64) (i3 : Int32) (i4 : Int32) (j5 : Int64) (j6 : Int64) (j7 : Int64) (b0 : Addr) (b1 : Addr) (h0 : Heap) (n0 : Nat) (O0 : Old Z n0 h0) (HE : Env1 Z a_cache clC) (g_b0 : n0 ≤ b0) (ne_b0_b1 : b0 ≠ b1) (f0 : Exa Z h0 b0 "com/example/vacant_throne/vacantthrone/core/Heartbeat") (f1 : Fld Z h0 b0 "com/example/vacant_throne/vacantthrone/core/Heartbeat" "reveal" "Z" (.int i0)) (f2 : Fld Z h0 b0 "com/example/vacant_throne/vacantthrone/core/Heartbeat" "set" "I" (.int i1)) (f3 : Fld Z h0 b0 "com/example/vacant_throne/vacantthrone/core/Heartbeat" "sender" "J" (.long j2)) (f4 : Fld Z h0 b0 "com/example/vacant_throne/vacantthrone/core/Heartbeat" "priority" "I" (.int i3)) (f5 : Fld Z h0 b0 "com/example/vacant_throne/vacantthrone/core/Heartbeat" "periodMs" "I" (.int i4)) (f6 : Fld Z h0 b0 "com/example/vacant_throne/vacantthrone/core/Heartbeat" "handOverTarget" "J" (.long j5)) (f7 : Fld Z h0 b0 "com/example/vacant_throne/vacantthrone/core/Heartbeat" "incarnation" "J" (.long j6)) (f8 : Fld Z h0 b0 "com/example/vacant_throne/vacantthrone/core/Heartbeat" "sequence" "J" (.long j7)) (f9 : Exa Z h0 b1 "java/lang/Long") :
    MetFree l M6 (head1 (Jvm.Cond.code M6 prog_8_method_12_code 3 (some .boolean) :: ws) ({ frames := 0, cells := 0, slots := 0, locals := 0 } : Room)) (fun a U => a = #[(.ref b0), (.ref b1)] ∧ Z.Warmed39 U.vm ∧ U.heap = h0) (fun _ _ _ _ _ => True) (fun _ U o U' => ∃ v L, o = .returned v ∧ Q6_11 Z a_cache clC i0 i1 j2 i3 i4 j5 j6 j7 b0 b1 h0 n0 v U'.heap L ∧ FrameEnd U o U' L ({ frames := 0, cells := 0, slots := 0, locals := 0 } : Room).cells ({ frames := 0, cells := 0, slots := 0, locals := 0 } : Room).slots) := by
 refine MetFree.of_bodySF (plainFor_of_name pn1) hisR ?_
 intro p e s m args below meth c s₁ Bd hml0 hP hK
 obtain ⟨rfl, hZ, hh⟩ := hP
 have hx := Bd.exec
 have hby := Bd.bytes
 have hml : c.maxLocals = 3 := hml0
 have hown : s.vm.findClass "com/example/vacant_throne/vacantthrone/core/Heartbeat" = some m.cls := findClass_of_methodNamed Bd.named
 have hnm := (name_of_methodNamed Bd.named Bd.method).1
 have X0 : Stand p l e ({ frames := 0, cells := 0, slots := 0, locals := 0 } : Room) s m #[(.ref b0), (.ref b1)] below meth c s₁ [] 0 0 := Stand.of_body Bd
 have e0 : s₁.heap = h0 := by rw [← hh, Bd.state]; rfl
 have N0 := Fr.nil n0
 let S0 : State → Prop := fun t => Steps p.tables e below (s₁.setTop (entryFrame m #[(.ref b0), (.ref b1)] 3)) t
 have p0 : ∀ t, St p e below s₁ (mkF m 0 #[.val (.ref b0), .val (.ref b1), .unset] []) t → S0 t := fun t k => castTop (ef7 m b0 b1) k
 have HE' := HE
 obtain ⟨Scache, RC, ZC, TC⟩ := HE
 have p1 : ∀ t, St p e below s₁ (mkF m 1 #[.val (.ref b0), .val (.ref b1), .unset] [(.ref b1)]) t → S0 t := fun t k => p0 t (by
   refine XS.aloadN X0.here hx rfl (hb hby d6_0) rfl rfl ?_
   exact k)
 obtain ⟨T2, X2, e2, st2⟩ := instNo X0 hx hZ hown (ww hw 67 rfl) e0 f9 (own_ns_no (ww hw 69 rfl) (ww hw 11 rfl) (NS.step (ww hw 69 rfl) (NS.step (ww hw 70 rfl) (own_ns_root (ww hw 71 rfl) (ww hw 11 rfl) (by decide)) (by decide)) (by decide)) (by decide)) (g := (mkF m 1 #[.val (.ref b0), .val (.ref b1), .unset] [(.ref b1)])) rfl rfl (hb hby d6_1)
 have p3 : ∀ t, St p e below T2 (mkF m 4 #[.val (.ref b0), .val (.ref b1), .unset] [(.int (0 : Int32))]) t → S0 t := fun t k => p1 t (st2 t k)
 have p4 : ∀ t, St p e below T2 (mkF m 8 #[.val (.ref b0), .val (.ref b1), .unset] [(.int (0 : Int32))]) t → S0 t := fun t k => p3 t (by
   refine XS.ifNo X2.here hx rfl (hb hby d6_4) rfl ((if0 _ _).trans (teq (by decide : (0 : Int32) = (0 : Int32))).2) ?_
   refine XT.iconstV X2.here hx rfl (0 : Int32) (hb hby d6_7) (by decide) ?_
   exact k)
 obtain ⟨fs, hr, hrun, hended, hW, hsame⟩ := X2.leave (v := some (.int (0 : Int32))) (fun h => by rw [Bd.returns] at h; cases h)
 refine ⟨_, _, p4 _ ?_, hrun, hended, _, _, rfl, ?_, ⟨_, rfl⟩, hW, hsame.mono (by decide) (by decide)⟩
 · exact retOut X2 hx Bd.returns rfl (Or.inl ⟨rfl, by simp, _, rfl⟩) (hb hby d6_8) hr
 · show Q6_11 Z a_cache clC i0 i1 j2 i3 i4 j5 j6 j7 b0 b1 h0 n0 _ T2.heap _
   exact ⟨N0, e2, rfl⟩
def Q0 (Z : State) (a_cache : Addr) (clC : Cell) (j0 : Int64) (j1 : Int64) (j2 : Int64) (i3 : Int32) (i4 : Int32) (j5 : Int64) (h0 : Heap) (n0 : Nat) (v : Option Value) (h : Heap) (L : List Loc) : Prop := v = some (.int 1) ∧ Fr n0 L
set_option maxRecDepth 65536 in
set_option maxHeartbeats 40000000 in
theorem rm0 (l : Launch) (Z : State) (a0 : Array Value) (hw : ∀ d ∈ tables_1, d.before a0 Z = true) (ws : List Jvm.Cond) (a_cache : Addr) (clC : Cell) (j0 : Int64) (j1 : Int64) (j2 : Int64) (i3 : Int32) (i4 : Int32) (j5 : Int64) (h0 : Heap) (n0 : Nat) (O0 : Old Z n0 h0) (HE : Env1 Z a_cache clC)  :
    MetFree l x (head1 (Jvm.Cond.code x code maxLocals ret :: ws) room_1) (fun a U => a = #[(.long j0), (.long j1), (.long j2), (.int i3), (.int i4), (.long j5)] ∧ Z.Warmed39 U.vm ∧ U.heap = h0) (fun _ _ _ _ _ => True) (fun _ U o U' => ∃ v L, o = .returned v ∧ Q0 Z a_cache clC j0 j1 j2 i3 i4 j5 h0 n0 v U'.heap L ∧ ReturnedEndW U o U' L 32 6336) := by
 refine MetFree.of_bodySF (plainFor_of_name pn0) hisR ?_
 intro p e s m args below meth c s₁ Bd hml0 hP hK
 obtain ⟨rfl, hZ, hh⟩ := hP
 have hx := Bd.exec
 have hby := Bd.bytes
 have hml : c.maxLocals = 21 := hml0
 have hown : s.vm.findClass "com/example/vacant_throne/vacantthrone/core/HeartbeatEqualsPinLaw" = some m.cls := findClass_of_methodNamed Bd.named
 have hnm := (name_of_methodNamed Bd.named Bd.method).1
 have X0 : Stand p l e room_1 (s.setVm s.vm) m #[(.long j0), (.long j1), (.long j2), (.int i3), (.int i4), (.long j5)] below meth c s₁ [] 0 0 := Stand.of_body Bd
 have hS0 : s.Since s.vm s.heap.size := ⟨State.Warmed39.refl s, fun j p hj hp => absurd (Array.getElem?_eq_some_iff.mp hp).1 (Nat.not_lt.mpr hj)⟩
 have hk0 : s.heap.size ≤ h0.size := Nat.le_of_eq (congrArg Array.size hh)
 have hwS : ∀ a ∈ Bundle.stringAtoms, a.before a0 Z = true := own_string_atoms hw
 have e0 : s₁.heap = h0 := by rw [← hh, Bd.state]; rfl
 have N0 := Fr.nil n0
 let S0 : State → Prop := fun t => Steps p.tables e below (s₁.setTop (entryFrame m #[(.long j0), (.long j1), (.long j2), (.int i3), (.int i4), (.long j5)] maxLocals)) t
 let Ls1 : Array Slot := #[.val (.long j0), .second, .val (.long j1), .second, .val (.long j2), .second, .val (.int i3), .val (.int i4), .val (.long j5), .second, .unset, .unset, .unset, .unset, .unset, .unset, .unset, .unset, .unset, .unset, .unset]
 have p0 : ∀ t, St p e below s₁ (mkF m 0 Ls1 []) t → S0 t := fun t k => castTop (ef0 m j0 j1 j2 i3 i4 j5) k
 have HE' := HE
 obtain ⟨Scache, RC, ZC, TC⟩ := HE
 let Ls2 : Array Slot := #[.val (.long j0), .second, .val (.long j1), .second, .val (.long j2), .second, .val (.int i3), .val (.int i4), .val (.long j5), .second, .val (.long (j1 &&& (4294967295 : Int64))), .second, .unset, .unset, .unset, .unset, .unset, .unset, .unset, .unset, .unset]
 have p3 : ∀ t, St p e below s₁ (mkF m 7 Ls2 []) t → S0 t := fun t k => p0 t (by
   refine XS.lloadN X0.here hx rfl (hb hby at_0) rfl ?_
   refine X0.ldc2J hx hown (mvT hZ (ww hw 0 rfl)) rfl (hb hby at_1) ?_
   refine XS.land X0.here hx rfl (hb hby at_4) rfl ?_
   refine XS.lstore X0.here hx rfl (hb hby at_5) rfl (l' := Ls2) rfl ?_
   exact k)
 obtain ⟨w4, Tj5, Lj5, Xj5, ej5, Nj5, g6, g7, pj5⟩ : ∃ (w4 : Int64) (Tj5 : State) (Lj5 : List Loc), Stand p l e room_1 s m #[(.long j0), (.long j1), (.long j2), (.int i3), (.int i4), (.long j5)] below meth c Tj5 Lj5 0 0 ∧ Tj5.heap = h0 ∧ Fr n0 Lj5 ∧ ¬ (w4 < (1 : Int64)) ∧ ¬ ((4294967295 : Int64) < w4) ∧ ∀ t, St p e below Tj5 (mkF m 17 #[.val (.long j0), .second, .val (.long j1), .second, .val (.long j2), .second, .val (.int i3), .val (.int i4), .val (.long j5), .second, .val (.long w4), .second, .unset, .unset, .unset, .unset, .unset, .unset, .unset, .unset, .unset] []) t → S0 t := by
  have p8 : ∀ t, St p e below s₁ (mkF m 11 Ls2 [(.int (lcmpW (j1 &&& (4294967295 : Int64)) (0 : Int64)))]) t → S0 t := fun t k => p3 t (by
    refine XS.lload X0.here hx rfl (hb hby at_7) rfl ?_
    refine XT.lconstV X0.here hx rfl (0 : Int64) (hb hby at_9) (by decide) ?_
    refine XS.lcmp X0.here hx rfl (hb hby at_10) rfl ?_
    exact k)
  by_cases g9 : (j1 &&& (4294967295 : Int64)) = (0 : Int64)
  ·
   let Ls10 : Array Slot := #[.val (.long j0), .second, .val (.long j1), .second, .val (.long j2), .second, .val (.int i3), .val (.int i4), .val (.long j5), .second, .val (.long (1 : Int64)), .second, .unset, .unset, .unset, .unset, .unset, .unset, .unset, .unset, .unset]
   have p11 : ∀ t, St p e below s₁ (mkF m 17 Ls10 []) t → S0 t := fun t k => p8 t (by
     refine XS.ifNo X0.here hx rfl (hb hby at_11) rfl ((if0 _ _).trans (teq ((lw_eq _ _).mpr g9)).2) ?_
     refine XT.lconstV X0.here hx rfl (1 : Int64) (hb hby at_14) (by decide) ?_
     refine XS.lstore X0.here hx rfl (hb hby at_15) rfl (l' := Ls10) rfl ?_
     exact k)
   exact ⟨(1 : Int64), _, _, X0, e0, N0, (by decide : ¬ ((1 : Int64) < (1 : Int64))), (by decide : ¬ ((4294967295 : Int64) < (1 : Int64))), p11⟩
  ·
   have p12 : ∀ t, St p e below s₁ (mkF m 17 Ls2 []) t → S0 t := fun t k => p8 t (by
     refine XS.ifYes X0.here hx rfl (pc0 := 11) (pc' := 17) rfl (hb hby at_11) rfl ((if0 _ _).trans (feq (mt (lw_eq _ _).mp g9)).2) (by decide) (by decide) ?_
     exact k)
   have q13 : ¬ ((j1 &&& (4294967295 : Int64)) < (1 : Int64)) := fun r => ar0 g9 r
   have q14 : ¬ ((4294967295 : Int64) < (j1 &&& (4294967295 : Int64))) := fun r => ar1 g9 q13 r
   exact ⟨(j1 &&& (4294967295 : Int64)), _, _, X0, e0, N0, q13, q14, p12⟩
 let Ls15 : Array Slot := #[.val (.long j0), .second, .val (.long j1), .second, .val (.long j2), .second, .val (.int i3), .val (.int i4), .val (.long j5), .second, .val (.long w4), .second, .unset, .unset, .unset, .unset, .unset, .unset, .unset, .unset, .unset]
 have p16 : ∀ t, St p e below Tj5 (mkF m 19 Ls15 [(.int (8 : Int32))]) t → S0 t := fun t k => pj5 t (by
   refine XT.bipushV Xj5.here hx rfl (8 : Int32) (hb hby at_17) (by decide) ?_
   exact k)
 obtain ⟨T17, h17, k17, X17, e17, E17, A17, st17⟩ := newP Xj5 hx hZ (ww hw 1 rfl) ej5 (g := (mkF m 19 Ls15 [(.int (8 : Int32))])) rfl (hb hby at_19) rfl (by decide) (cap := 8) (by decide) (by decide) (by decide) (by decide)
 obtain ⟨o17, gq17⟩ : ∃ z, z = (h0).size := ⟨_, rfl⟩
 rw [← gq17] at A17 st17
 have gb_o17 : n0 ≤ o17 := Nat.le_trans (own_old_le O0) (Nat.le_of_eq gq17.symm)
 have sz_o17 : h0.size ≤ o17 := Nat.le_trans ((Keep.refl h0 [])).1 (Nat.le_of_eq gq17.symm)
 have O18 := O0.ext E17
 have K19 := (Keep.refl h0 []).ext E17
 have hk20 := Nat.le_trans hk0 E17.1
 have V_21 : Arv Z h17 o17 k17 .long (8 : Int32) [(.long (0 : Int64)), (.long (0 : Int64)), (.long (0 : Int64)), (.long (0 : Int64)), (.long (0 : Int64)), (.long (0 : Int64)), (.long (0 : Int64)), (.long (0 : Int64))] (.long (0 : Int64)) := (Arv.new A17 (by decide)).pad (pad_rep [] (.long (0 : Int64)) 8)
 have p22 : ∀ t, St p e below T17 (mkF m 21 Ls15 [(.ref o17)]) t → S0 t := fun t k => p16 t (st17 t k)
 let Ls23 : Array Slot := #[.val (.long j0), .second, .val (.long j1), .second, .val (.long j2), .second, .val (.int i3), .val (.int i4), .val (.long j5), .second, .val (.long w4), .second, .val (.ref o17), .unset, .unset, .unset, .unset, .unset, .unset, .unset, .unset]
 have p24 : ∀ t, St p e below T17 (mkF m 26 Ls23 [(.int (0 : Int32)), (.ref o17)]) t → S0 t := fun t k => p22 t (by
   refine XS.astore X17.here hx rfl (hb hby at_21) rfl rfl (l' := Ls23) rfl ?_
   refine XS.aload X17.here hx rfl (hb hby at_23) rfl rfl ?_
   refine XT.iconstV X17.here hx rfl (0 : Int32) (hb hby at_25) (by decide) ?_
   exact k)
 obtain ⟨w25, Tj26, Lj26, Xj26, ej26, Nj26, g27, g28, pj26⟩ : ∃ (w25 : Int64) (Tj26 : State) (Lj26 : List Loc), Stand p l e room_1 s m #[(.long j0), (.long j1), (.long j2), (.int i3), (.int i4), (.long j5)] below meth c Tj26 Lj26 1 8 ∧ Tj26.heap = h17 ∧ Fr n0 Lj26 ∧ ¬ (w25 < (0 : Int64)) ∧ ¬ ((1 : Int64) < w25) ∧ ∀ t, St p e below Tj26 (mkF m 39 #[.val (.long j0), .second, .val (.long j1), .second, .val (.long j2), .second, .val (.int i3), .val (.int i4), .val (.long j5), .second, .val (.long w4), .second, .val (.ref o17), .unset, .unset, .unset, .unset, .unset, .unset, .unset, .unset] [(.long w25), (.int (0 : Int32)), (.ref o17)]) t → S0 t := by
  have p29 : ∀ t, St p e below T17 (mkF m 31 Ls23 [(.int (i3 &&& (65536 : Int32))), (.int (0 : Int32)), (.ref o17)]) t → S0 t := fun t k => p24 t (by
    refine XS.iload X17.here hx rfl (hb hby at_26) rfl ?_
    refine X17.ldcI hx hown (mvT hZ (ww hw 2 rfl)) rfl (hb hby at_28) ?_
    refine XS.iand X17.here hx rfl (hb hby at_30) rfl ?_
    exact k)
  by_cases g30 : (i3 &&& (65536 : Int32)) = (0 : Int32)
  ·
   have p31 : ∀ t, St p e below T17 (mkF m 39 Ls23 [(.long (0 : Int64)), (.int (0 : Int32)), (.ref o17)]) t → S0 t := fun t k => p29 t (by
     refine XS.ifYes X17.here hx rfl (pc0 := 31) (pc' := 38) rfl (hb hby at_31) rfl ((if0 _ _).trans (teq g30).1) (by decide) (by decide) ?_
     refine XT.lconstV X17.here hx rfl (0 : Int64) (hb hby at_38) (by decide) ?_
     exact k)
   exact ⟨(0 : Int64), _, _, X17, e17, Nj5, (by decide : ¬ ((0 : Int64) < (0 : Int64))), (by decide : ¬ ((1 : Int64) < (0 : Int64))), p31⟩
  ·
   have p32 : ∀ t, St p e below T17 (mkF m 39 Ls23 [(.long (1 : Int64)), (.int (0 : Int32)), (.ref o17)]) t → S0 t := fun t k => p29 t (by
     refine XS.ifNo X17.here hx rfl (hb hby at_31) rfl ((if0 _ _).trans (feq g30).1) ?_
     refine XT.lconstV X17.here hx rfl (1 : Int64) (hb hby at_34) (by decide) ?_
     refine XS.goto X17.here hx rfl (pc0 := 35) (pc' := 39) rfl (hb hby at_35) (by decide) (by decide) ?_
     exact k)
   exact ⟨(1 : Int64), _, _, X17, e17, Nj5, (by decide : ¬ ((1 : Int64) < (0 : Int64))), (by decide : ¬ ((1 : Int64) < (1 : Int64))), p32⟩
 obtain ⟨cl33, Ar33, q33, Sz33, Nn33, Hs33, Gf33⟩ := id V_21
 have hin33 : ¬ ((0 : Int32) < 0 ∨ cl33.slots.size ≤ (0 : Int32).toNatClampNeg) := inb_of Sz33 ⟨by decide, by decide⟩
 let Ls34 : Array Slot := #[.val (.long j0), .second, .val (.long j1), .second, .val (.long j2), .second, .val (.int i3), .val (.int i4), .val (.long j5), .second, .val (.long w4), .second, .val (.ref o17), .unset, .unset, .unset, .unset, .unset, .unset, .unset, .unset]
 obtain ⟨T33, h33, X33, e33, W33, st33⟩ := stJ Xj26 hx hZ ej26 Ar33 (j := (0 : Int32)) hin33 (g := (mkF m 39 Ls34 [(.long w25), (.int (0 : Int32)), (.ref o17)])) rfl rfl (hb hby at_39)
 have O35 := O18.wr W33 gb_o17
 have K36 := K19.wr W33 (Or.inr sz_o17)
 have hk37 := Nat.le_trans hk20 (Keep.of_wr W33).1
 have V_38 : Arv Z h33 o17 k17 .long (8 : Int32) [(.long w25), (.long (0 : Int64)), (.long (0 : Int64)), (.long (0 : Int64)), (.long (0 : Int64)), (.long (0 : Int64)), (.long (0 : Int64)), (.long (0 : Int64))] (.long (0 : Int64)) := Arv.set Ar33 q33 Sz33 Nn33 Hs33 Gf33 rfl W33 0 rfl (Nat.le_of_ble_eq_true rfl)
 have N39 := Fr.snoc X33 Nj26 gb_o17
 have p40 : ∀ t, St p e below T33 (mkF m 40 Ls34 []) t → S0 t := fun t k => pj26 t (st33 t k)
 have p41 : ∀ t, St p e below T33 (mkF m 49 Ls34 [(.long ((i3 &&& (65535 : Int32)).toInt64)), (.int (1 : Int32)), (.ref o17)]) t → S0 t := fun t k => p40 t (by
   refine XS.aload X33.here hx rfl (hb hby at_40) rfl rfl ?_
   refine XT.iconstV X33.here hx rfl (1 : Int32) (hb hby at_42) (by decide) ?_
   refine XS.iload X33.here hx rfl (hb hby at_43) rfl ?_
   refine X33.ldcI hx hown (mvT hZ (ww hw 3 rfl)) rfl (hb hby at_45) ?_
   refine XS.iand X33.here hx rfl (hb hby at_47) rfl ?_
   show St p e below T33 (mkF m 48 Ls34 [(.int (i3 &&& (65535 : Int32))), (.int (1 : Int32)), (.ref o17)]) t
   refine XS.i2l X33.here hx rfl (hb hby at_48) rfl ?_
   exact k)
 have q43 : ¬ (((i3 &&& (65535 : Int32)).toInt64) < (0 : Int64)) := fun r => ar2 r
 have q44 : ¬ ((65535 : Int64) < ((i3 &&& (65535 : Int32)).toInt64)) := fun r => ar3 r
 have q45 : ¬ ((4294967295 : Int64) < ((i3 &&& (65535 : Int32)).toInt64)) := fun r => ar4 r
 obtain ⟨w42, w42_eq⟩ : ∃ z : Int64, z = ((i3 &&& (65535 : Int32)).toInt64) := ⟨_, rfl⟩
 have p46 : ∀ t, St p e below T33 (mkF m 49 Ls34 [(.long w42), (.int (1 : Int32)), (.ref o17)]) t → S0 t := fun t k => p41 t (by show St p e below T33 (mkF m 49 #[.val (.long j0), .second, .val (.long j1), .second, .val (.long j2), .second, .val (.int i3), .val (.int i4), .val (.long j5), .second, .val (.long w4), .second, .val (.ref o17), .unset, .unset, .unset, .unset, .unset, .unset, .unset, .unset] [(.long ((i3 &&& (65535 : Int32)).toInt64)), (.int (1 : Int32)), (.ref o17)]) t; rw [← w42_eq]; exact k)
 have g47 : ¬ (w42 < (0 : Int64)) := by rw [w42_eq]; exact q43
 have g48 : ¬ ((65535 : Int64) < w42) := by rw [w42_eq]; exact q44
 have g49 : ¬ ((4294967295 : Int64) < w42) := by rw [w42_eq]; exact q45
 obtain ⟨cl50, Ar50, q50, Sz50, Nn50, Hs50, Gf50⟩ := id V_38
 have hin50 : ¬ ((1 : Int32) < 0 ∨ cl50.slots.size ≤ (1 : Int32).toNatClampNeg) := inb_of Sz50 ⟨by decide, by decide⟩
 obtain ⟨T50, h50, X50, e50, W50, st50⟩ := stJ X33 hx hZ e33 Ar50 (j := (1 : Int32)) hin50 (g := (mkF m 49 Ls34 [(.long w42), (.int (1 : Int32)), (.ref o17)])) rfl rfl (hb hby at_49)
 have O51 := O35.wr W50 gb_o17
 have K52 := K36.wr W50 (Or.inr sz_o17)
 have hk53 := Nat.le_trans hk37 (Keep.of_wr W50).1
 have V_54 : Arv Z h50 o17 k17 .long (8 : Int32) [(.long w25), (.long w42), (.long (0 : Int64)), (.long (0 : Int64)), (.long (0 : Int64)), (.long (0 : Int64)), (.long (0 : Int64)), (.long (0 : Int64))] (.long (0 : Int64)) := Arv.set Ar50 q50 Sz50 Nn50 Hs50 Gf50 rfl W50 1 rfl (Nat.le_of_ble_eq_true rfl)
 have N55 := Fr.snoc X50 N39 gb_o17
 have p56 : ∀ t, St p e below T50 (mkF m 50 Ls34 []) t → S0 t := fun t k => p46 t (st50 t k)
 have p57 : ∀ t, St p e below T50 (mkF m 55 Ls34 [(.long w4), (.int (2 : Int32)), (.ref o17)]) t → S0 t := fun t k => p56 t (by
   refine XS.aload X50.here hx rfl (hb hby at_50) rfl rfl ?_
   refine XT.iconstV X50.here hx rfl (2 : Int32) (hb hby at_52) (by decide) ?_
   refine XS.lload X50.here hx rfl (hb hby at_53) rfl ?_
   exact k)
 obtain ⟨cl58, Ar58, q58, Sz58, Nn58, Hs58, Gf58⟩ := id V_54
 have hin58 : ¬ ((2 : Int32) < 0 ∨ cl58.slots.size ≤ (2 : Int32).toNatClampNeg) := inb_of Sz58 ⟨by decide, by decide⟩
 obtain ⟨T58, h58, X58, e58, W58, st58⟩ := stJ X50 hx hZ e50 Ar58 (j := (2 : Int32)) hin58 (g := (mkF m 55 Ls34 [(.long w4), (.int (2 : Int32)), (.ref o17)])) rfl rfl (hb hby at_55)
 have O59 := O51.wr W58 gb_o17
 have K60 := K52.wr W58 (Or.inr sz_o17)
 have hk61 := Nat.le_trans hk53 (Keep.of_wr W58).1
 have V_62 : Arv Z h58 o17 k17 .long (8 : Int32) [(.long w25), (.long w42), (.long w4), (.long (0 : Int64)), (.long (0 : Int64)), (.long (0 : Int64)), (.long (0 : Int64)), (.long (0 : Int64))] (.long (0 : Int64)) := Arv.set Ar58 q58 Sz58 Nn58 Hs58 Gf58 rfl W58 2 rfl (Nat.le_of_ble_eq_true rfl)
 have N63 := Fr.snoc X58 N55 gb_o17
 have p64 : ∀ t, St p e below T58 (mkF m 56 Ls34 []) t → S0 t := fun t k => p57 t (st58 t k)
 have p65 : ∀ t, St p e below T58 (mkF m 65 Ls34 [(.long (j2 &&& (65535 : Int64))), (.int (3 : Int32)), (.ref o17)]) t → S0 t := fun t k => p64 t (by
   refine XS.aload X58.here hx rfl (hb hby at_56) rfl rfl ?_
   refine XT.iconstV X58.here hx rfl (3 : Int32) (hb hby at_58) (by decide) ?_
   refine XS.lload X58.here hx rfl (hb hby at_59) rfl ?_
   refine X58.ldc2J hx hown (mvT hZ (ww hw 4 rfl)) rfl (hb hby at_61) ?_
   refine XS.land X58.here hx rfl (hb hby at_64) rfl ?_
   exact k)
 have q67 : ¬ ((j2 &&& (65535 : Int64)) < (0 : Int64)) := fun r => ar5 r
 have q68 : ¬ ((65535 : Int64) < (j2 &&& (65535 : Int64))) := fun r => ar6 r
 have q69 : ¬ ((4294967295 : Int64) < (j2 &&& (65535 : Int64))) := fun r => ar7 r
 obtain ⟨w66, w66_eq⟩ : ∃ z : Int64, z = (j2 &&& (65535 : Int64)) := ⟨_, rfl⟩
 have p70 : ∀ t, St p e below T58 (mkF m 65 Ls34 [(.long w66), (.int (3 : Int32)), (.ref o17)]) t → S0 t := fun t k => p65 t (by show St p e below T58 (mkF m 65 #[.val (.long j0), .second, .val (.long j1), .second, .val (.long j2), .second, .val (.int i3), .val (.int i4), .val (.long j5), .second, .val (.long w4), .second, .val (.ref o17), .unset, .unset, .unset, .unset, .unset, .unset, .unset, .unset] [(.long (j2 &&& (65535 : Int64))), (.int (3 : Int32)), (.ref o17)]) t; rw [← w66_eq]; exact k)
 have g71 : ¬ (w66 < (0 : Int64)) := by rw [w66_eq]; exact q67
 have g72 : ¬ ((65535 : Int64) < w66) := by rw [w66_eq]; exact q68
 have g73 : ¬ ((4294967295 : Int64) < w66) := by rw [w66_eq]; exact q69
 obtain ⟨cl74, Ar74, q74, Sz74, Nn74, Hs74, Gf74⟩ := id V_62
 have hin74 : ¬ ((3 : Int32) < 0 ∨ cl74.slots.size ≤ (3 : Int32).toNatClampNeg) := inb_of Sz74 ⟨by decide, by decide⟩
 obtain ⟨T74, h74, X74, e74, W74, st74⟩ := stJ X58 hx hZ e58 Ar74 (j := (3 : Int32)) hin74 (g := (mkF m 65 Ls34 [(.long w66), (.int (3 : Int32)), (.ref o17)])) rfl rfl (hb hby at_65)
 have O75 := O59.wr W74 gb_o17
 have K76 := K60.wr W74 (Or.inr sz_o17)
 have hk77 := Nat.le_trans hk61 (Keep.of_wr W74).1
 have V_78 : Arv Z h74 o17 k17 .long (8 : Int32) [(.long w25), (.long w42), (.long w4), (.long w66), (.long (0 : Int64)), (.long (0 : Int64)), (.long (0 : Int64)), (.long (0 : Int64))] (.long (0 : Int64)) := Arv.set Ar74 q74 Sz74 Nn74 Hs74 Gf74 rfl W74 3 rfl (Nat.le_of_ble_eq_true rfl)
 have N79 := Fr.snoc X74 N63 gb_o17
 have p80 : ∀ t, St p e below T74 (mkF m 66 Ls34 []) t → S0 t := fun t k => p70 t (st74 t k)
 have p81 : ∀ t, St p e below T74 (mkF m 78 Ls34 [(.long (((j2.toUInt64 >>> ((16 : Int32) &&& 0x3f).toInt64.toUInt64).toInt64) &&& (65535 : Int64))), (.int (4 : Int32)), (.ref o17)]) t → S0 t := fun t k => p80 t (by
   refine XS.aload X74.here hx rfl (hb hby at_66) rfl rfl ?_
   refine XT.iconstV X74.here hx rfl (4 : Int32) (hb hby at_68) (by decide) ?_
   refine XS.lload X74.here hx rfl (hb hby at_69) rfl ?_
   refine XT.bipushV X74.here hx rfl (16 : Int32) (hb hby at_71) (by decide) ?_
   refine XS.lushr X74.here hx rfl (hb hby at_73) rfl ?_
   show St p e below T74 (mkF m 74 Ls34 [(.long ((j2.toUInt64 >>> ((16 : Int32) &&& 0x3f).toInt64.toUInt64).toInt64)), (.int (4 : Int32)), (.ref o17)]) t
   refine X74.ldc2J hx hown (mvT hZ (ww hw 4 rfl)) rfl (hb hby at_74) ?_
   refine XS.land X74.here hx rfl (hb hby at_77) rfl ?_
   exact k)
 have q83 : ¬ ((((j2.toUInt64 >>> ((16 : Int32) &&& 0x3f).toInt64.toUInt64).toInt64) &&& (65535 : Int64)) < (0 : Int64)) := fun r => ar8 r
 have q84 : ¬ ((65535 : Int64) < (((j2.toUInt64 >>> ((16 : Int32) &&& 0x3f).toInt64.toUInt64).toInt64) &&& (65535 : Int64))) := fun r => ar9 r
 have q85 : ¬ ((4294967295 : Int64) < (((j2.toUInt64 >>> ((16 : Int32) &&& 0x3f).toInt64.toUInt64).toInt64) &&& (65535 : Int64))) := fun r => ar10 r
 obtain ⟨w82, w82_eq⟩ : ∃ z : Int64, z = (((j2.toUInt64 >>> ((16 : Int32) &&& 0x3f).toInt64.toUInt64).toInt64) &&& (65535 : Int64)) := ⟨_, rfl⟩
 have p86 : ∀ t, St p e below T74 (mkF m 78 Ls34 [(.long w82), (.int (4 : Int32)), (.ref o17)]) t → S0 t := fun t k => p81 t (by show St p e below T74 (mkF m 78 #[.val (.long j0), .second, .val (.long j1), .second, .val (.long j2), .second, .val (.int i3), .val (.int i4), .val (.long j5), .second, .val (.long w4), .second, .val (.ref o17), .unset, .unset, .unset, .unset, .unset, .unset, .unset, .unset] [(.long (((j2.toUInt64 >>> ((16 : Int32) &&& 0x3f).toInt64.toUInt64).toInt64) &&& (65535 : Int64))), (.int (4 : Int32)), (.ref o17)]) t; rw [← w82_eq]; exact k)
 have g87 : ¬ (w82 < (0 : Int64)) := by rw [w82_eq]; exact q83
 have g88 : ¬ ((65535 : Int64) < w82) := by rw [w82_eq]; exact q84
 have g89 : ¬ ((4294967295 : Int64) < w82) := by rw [w82_eq]; exact q85
 obtain ⟨cl90, Ar90, q90, Sz90, Nn90, Hs90, Gf90⟩ := id V_78
 have hin90 : ¬ ((4 : Int32) < 0 ∨ cl90.slots.size ≤ (4 : Int32).toNatClampNeg) := inb_of Sz90 ⟨by decide, by decide⟩
 obtain ⟨T90, h90, X90, e90, W90, st90⟩ := stJ X74 hx hZ e74 Ar90 (j := (4 : Int32)) hin90 (g := (mkF m 78 Ls34 [(.long w82), (.int (4 : Int32)), (.ref o17)])) rfl rfl (hb hby at_78)
 have O91 := O75.wr W90 gb_o17
 have K92 := K76.wr W90 (Or.inr sz_o17)
 have hk93 := Nat.le_trans hk77 (Keep.of_wr W90).1
 have V_94 : Arv Z h90 o17 k17 .long (8 : Int32) [(.long w25), (.long w42), (.long w4), (.long w66), (.long w82), (.long (0 : Int64)), (.long (0 : Int64)), (.long (0 : Int64))] (.long (0 : Int64)) := Arv.set Ar90 q90 Sz90 Nn90 Hs90 Gf90 rfl W90 4 rfl (Nat.le_of_ble_eq_true rfl)
 have N95 := Fr.snoc X90 N79 gb_o17
 have p96 : ∀ t, St p e below T90 (mkF m 79 Ls34 []) t → S0 t := fun t k => p86 t (st90 t k)
 have p97 : ∀ t, St p e below T90 (mkF m 86 Ls34 [(.long ((j1.toUInt64 >>> ((32 : Int32) &&& 0x3f).toInt64.toUInt64).toInt64)), (.int (5 : Int32)), (.ref o17)]) t → S0 t := fun t k => p96 t (by
   refine XS.aload X90.here hx rfl (hb hby at_79) rfl rfl ?_
   refine XT.iconstV X90.here hx rfl (5 : Int32) (hb hby at_81) (by decide) ?_
   refine XS.lloadN X90.here hx rfl (hb hby at_82) rfl ?_
   refine XT.bipushV X90.here hx rfl (32 : Int32) (hb hby at_83) (by decide) ?_
   refine XS.lushr X90.here hx rfl (hb hby at_85) rfl ?_
   exact k)
 have q99 : ¬ (((j1.toUInt64 >>> ((32 : Int32) &&& 0x3f).toInt64.toUInt64).toInt64) < (0 : Int64)) := fun r => ar11 r
 have q100 : ¬ ((4294967295 : Int64) < ((j1.toUInt64 >>> ((32 : Int32) &&& 0x3f).toInt64.toUInt64).toInt64)) := fun r => ar12 r
 obtain ⟨w98, w98_eq⟩ : ∃ z : Int64, z = ((j1.toUInt64 >>> ((32 : Int32) &&& 0x3f).toInt64.toUInt64).toInt64) := ⟨_, rfl⟩
 have p101 : ∀ t, St p e below T90 (mkF m 86 Ls34 [(.long w98), (.int (5 : Int32)), (.ref o17)]) t → S0 t := fun t k => p97 t (by show St p e below T90 (mkF m 86 #[.val (.long j0), .second, .val (.long j1), .second, .val (.long j2), .second, .val (.int i3), .val (.int i4), .val (.long j5), .second, .val (.long w4), .second, .val (.ref o17), .unset, .unset, .unset, .unset, .unset, .unset, .unset, .unset] [(.long ((j1.toUInt64 >>> ((32 : Int32) &&& 0x3f).toInt64.toUInt64).toInt64)), (.int (5 : Int32)), (.ref o17)]) t; rw [← w98_eq]; exact k)
 have g102 : ¬ (w98 < (0 : Int64)) := by rw [w98_eq]; exact q99
 have g103 : ¬ ((4294967295 : Int64) < w98) := by rw [w98_eq]; exact q100
 obtain ⟨cl104, Ar104, q104, Sz104, Nn104, Hs104, Gf104⟩ := id V_94
 have hin104 : ¬ ((5 : Int32) < 0 ∨ cl104.slots.size ≤ (5 : Int32).toNatClampNeg) := inb_of Sz104 ⟨by decide, by decide⟩
 obtain ⟨T104, h104, X104, e104, W104, st104⟩ := stJ X90 hx hZ e90 Ar104 (j := (5 : Int32)) hin104 (g := (mkF m 86 Ls34 [(.long w98), (.int (5 : Int32)), (.ref o17)])) rfl rfl (hb hby at_86)
 have O105 := O91.wr W104 gb_o17
 have K106 := K92.wr W104 (Or.inr sz_o17)
 have hk107 := Nat.le_trans hk93 (Keep.of_wr W104).1
 have V_108 : Arv Z h104 o17 k17 .long (8 : Int32) [(.long w25), (.long w42), (.long w4), (.long w66), (.long w82), (.long w98), (.long (0 : Int64)), (.long (0 : Int64))] (.long (0 : Int64)) := Arv.set Ar104 q104 Sz104 Nn104 Hs104 Gf104 rfl W104 5 rfl (Nat.le_of_ble_eq_true rfl)
 have N109 := Fr.snoc X104 N95 gb_o17
 have p110 : ∀ t, St p e below T104 (mkF m 87 Ls34 []) t → S0 t := fun t k => p101 t (st104 t k)
 have p111 : ∀ t, St p e below T104 (mkF m 92 Ls34 [(.long j0), (.int (6 : Int32)), (.ref o17)]) t → S0 t := fun t k => p110 t (by
   refine XS.aload X104.here hx rfl (hb hby at_87) rfl rfl ?_
   refine XT.bipushV X104.here hx rfl (6 : Int32) (hb hby at_89) (by decide) ?_
   refine XS.lloadN X104.here hx rfl (hb hby at_91) rfl ?_
   exact k)
 obtain ⟨cl112, Ar112, q112, Sz112, Nn112, Hs112, Gf112⟩ := id V_108
 have hin112 : ¬ ((6 : Int32) < 0 ∨ cl112.slots.size ≤ (6 : Int32).toNatClampNeg) := inb_of Sz112 ⟨by decide, by decide⟩
 obtain ⟨T112, h112, X112, e112, W112, st112⟩ := stJ X104 hx hZ e104 Ar112 (j := (6 : Int32)) hin112 (g := (mkF m 92 Ls34 [(.long j0), (.int (6 : Int32)), (.ref o17)])) rfl rfl (hb hby at_92)
 have O113 := O105.wr W112 gb_o17
 have K114 := K106.wr W112 (Or.inr sz_o17)
 have hk115 := Nat.le_trans hk107 (Keep.of_wr W112).1
 have V_116 : Arv Z h112 o17 k17 .long (8 : Int32) [(.long w25), (.long w42), (.long w4), (.long w66), (.long w82), (.long w98), (.long j0), (.long (0 : Int64))] (.long (0 : Int64)) := Arv.set Ar112 q112 Sz112 Nn112 Hs112 Gf112 rfl W112 6 rfl (Nat.le_of_ble_eq_true rfl)
 have N117 := Fr.snoc X112 N109 gb_o17
 have p118 : ∀ t, St p e below T112 (mkF m 93 Ls34 []) t → S0 t := fun t k => p111 t (st112 t k)
 have p119 : ∀ t, St p e below T112 (mkF m 102 Ls34 [(.long ((j2.toUInt64 >>> ((32 : Int32) &&& 0x3f).toInt64.toUInt64).toInt64)), (.int (7 : Int32)), (.ref o17)]) t → S0 t := fun t k => p118 t (by
   refine XS.aload X112.here hx rfl (hb hby at_93) rfl rfl ?_
   refine XT.bipushV X112.here hx rfl (7 : Int32) (hb hby at_95) (by decide) ?_
   refine XS.lload X112.here hx rfl (hb hby at_97) rfl ?_
   refine XT.bipushV X112.here hx rfl (32 : Int32) (hb hby at_99) (by decide) ?_
   refine XS.lushr X112.here hx rfl (hb hby at_101) rfl ?_
   exact k)
 have q121 : ¬ (((j2.toUInt64 >>> ((32 : Int32) &&& 0x3f).toInt64.toUInt64).toInt64) < (0 : Int64)) := fun r => ar11 r
 have q122 : ¬ ((4294967295 : Int64) < ((j2.toUInt64 >>> ((32 : Int32) &&& 0x3f).toInt64.toUInt64).toInt64)) := fun r => ar12 r
 obtain ⟨w120, w120_eq⟩ : ∃ z : Int64, z = ((j2.toUInt64 >>> ((32 : Int32) &&& 0x3f).toInt64.toUInt64).toInt64) := ⟨_, rfl⟩
 have p123 : ∀ t, St p e below T112 (mkF m 102 Ls34 [(.long w120), (.int (7 : Int32)), (.ref o17)]) t → S0 t := fun t k => p119 t (by show St p e below T112 (mkF m 102 #[.val (.long j0), .second, .val (.long j1), .second, .val (.long j2), .second, .val (.int i3), .val (.int i4), .val (.long j5), .second, .val (.long w4), .second, .val (.ref o17), .unset, .unset, .unset, .unset, .unset, .unset, .unset, .unset] [(.long ((j2.toUInt64 >>> ((32 : Int32) &&& 0x3f).toInt64.toUInt64).toInt64)), (.int (7 : Int32)), (.ref o17)]) t; rw [← w120_eq]; exact k)
 have g124 : ¬ (w120 < (0 : Int64)) := by rw [w120_eq]; exact q121
 have g125 : ¬ ((4294967295 : Int64) < w120) := by rw [w120_eq]; exact q122
 obtain ⟨cl126, Ar126, q126, Sz126, Nn126, Hs126, Gf126⟩ := id V_116
 have hin126 : ¬ ((7 : Int32) < 0 ∨ cl126.slots.size ≤ (7 : Int32).toNatClampNeg) := inb_of Sz126 ⟨by decide, by decide⟩
 obtain ⟨T126, h126, X126, e126, W126, st126⟩ := stJ X112 hx hZ e112 Ar126 (j := (7 : Int32)) hin126 (g := (mkF m 102 Ls34 [(.long w120), (.int (7 : Int32)), (.ref o17)])) rfl rfl (hb hby at_102)
 have O127 := O113.wr W126 gb_o17
 have K128 := K114.wr W126 (Or.inr sz_o17)
 have hk129 := Nat.le_trans hk115 (Keep.of_wr W126).1
 have V_130 : Arv Z h126 o17 k17 .long (8 : Int32) [(.long w25), (.long w42), (.long w4), (.long w66), (.long w82), (.long w98), (.long j0), (.long w120)] (.long (0 : Int64)) := Arv.set Ar126 q126 Sz126 Nn126 Hs126 Gf126 rfl W126 7 rfl (Nat.le_of_ble_eq_true rfl)
 have N131 := Fr.snoc X126 N117 gb_o17
 have p132 : ∀ t, St p e below T126 (mkF m 103 Ls34 []) t → S0 t := fun t k => p123 t (st126 t k)
 have p133 : ∀ t, St p e below T126 (mkF m 111 Ls34 [(.int ((i4 &&& (2147483647 : Int32)) % (9 : Int32)))]) t → S0 t := fun t k => p132 t (by
   refine XS.iload X126.here hx rfl (hb hby at_103) rfl ?_
   refine X126.ldcI hx hown (mvT hZ (ww hw 5 rfl)) rfl (hb hby at_105) ?_
   refine XS.iand X126.here hx rfl (hb hby at_107) rfl ?_
   refine XT.bipushV X126.here hx rfl (9 : Int32) (hb hby at_108) (by decide) ?_
   refine iremM X126 hx rfl (hb hby at_110) rfl (by decide : ¬ ((9 : Int32) = (0 : Int32))) ?_
   exact k)
 have q135 : ¬ (((i4 &&& (2147483647 : Int32)) % (9 : Int32)) < (0 : Int32)) := fun r => ar13 r
 have q136 : ¬ ((8 : Int32) < ((i4 &&& (2147483647 : Int32)) % (9 : Int32))) := fun r => ar14 r
 obtain ⟨w134, w134_eq⟩ : ∃ z : Int32, z = ((i4 &&& (2147483647 : Int32)) % (9 : Int32)) := ⟨_, rfl⟩
 have p137 : ∀ t, St p e below T126 (mkF m 111 Ls34 [(.int w134)]) t → S0 t := fun t k => p133 t (by show St p e below T126 (mkF m 111 #[.val (.long j0), .second, .val (.long j1), .second, .val (.long j2), .second, .val (.int i3), .val (.int i4), .val (.long j5), .second, .val (.long w4), .second, .val (.ref o17), .unset, .unset, .unset, .unset, .unset, .unset, .unset, .unset] [(.int ((i4 &&& (2147483647 : Int32)) % (9 : Int32)))]) t; rw [← w134_eq]; exact k)
 have g138 : ¬ (w134 < (0 : Int32)) := by rw [w134_eq]; exact q135
 have g139 : ¬ ((8 : Int32) < w134) := by rw [w134_eq]; exact q136
 let Ls140 : Array Slot := #[.val (.long j0), .second, .val (.long j1), .second, .val (.long j2), .second, .val (.int i3), .val (.int i4), .val (.long j5), .second, .val (.long w4), .second, .val (.ref o17), .val (.int w134), .unset, .unset, .unset, .unset, .unset, .unset, .unset]
 let Ls141 : Array Slot := #[.val (.long j0), .second, .val (.long j1), .second, .val (.long j2), .second, .val (.int i3), .val (.int i4), .val (.long j5), .second, .val (.long w4), .second, .val (.ref o17), .val (.int w134), .val (.long (0 : Int64)), .second, .unset, .unset, .unset, .unset, .unset]
 have p142 : ∀ t, St p e below T126 (mkF m 116 Ls141 []) t → S0 t := fun t k => p137 t (by
   refine XS.istore X126.here hx rfl (hb hby at_111) rfl (l' := Ls140) rfl ?_
   refine XT.lconstV X126.here hx rfl (0 : Int64) (hb hby at_113) (by decide) ?_
   refine XS.lstore X126.here hx rfl (hb hby at_114) rfl (l' := Ls141) rfl ?_
   exact k)
 obtain ⟨w143, Tj144, Lj144, Xj144, ej144, Nj144, g145, g146, pj144⟩ : ∃ (w143 : Int64) (Tj144 : State) (Lj144 : List Loc), Stand p l e room_1 s m #[(.long j0), (.long j1), (.long j2), (.int i3), (.int i4), (.long j5)] below meth c Tj144 Lj144 1 8 ∧ Tj144.heap = h126 ∧ Fr n0 Lj144 ∧ ¬ (w143 < (own_lo w134)) ∧ ¬ ((own_hi w134) < w143) ∧ ∀ t, St p e below Tj144 (mkF m 254 #[.val (.long j0), .second, .val (.long j1), .second, .val (.long j2), .second, .val (.int i3), .val (.int i4), .val (.long j5), .second, .val (.long w4), .second, .val (.ref o17), .val (.int w134), .val (.long w143), .second, .unset, .unset, .unset, .unset, .unset] []) t → S0 t := by
  have p147 : ∀ t, St p e below T126 (mkF m 118 Ls141 [(.int w134)]) t → S0 t := fun t k => p142 t (by
    refine XS.iload X126.here hx rfl (hb hby at_116) rfl ?_
    exact k)
  by_cases g148 : w134 = (0 : Int32)
  ·
   let Ls149 : Array Slot := #[.val (.long j0), .second, .val (.long j1), .second, .val (.long j2), .second, .val (.int i3), .val (.int i4), .val (.long j5), .second, .val (.long w4), .second, .val (.ref o17), .val (.int w134), .val (.long (j5 &&& (1 : Int64))), .second, .unset, .unset, .unset, .unset, .unset]
   have p150 : ∀ t, St p e below T126 (mkF m 254 Ls149 []) t → S0 t := fun t k => p147 t (by
     refine XS.ifNo X126.here hx rfl (hb hby at_118) rfl ((if0 _ _).trans (teq g148).2) ?_
     refine XS.lload X126.here hx rfl (hb hby at_121) rfl ?_
     refine XT.lconstV X126.here hx rfl (1 : Int64) (hb hby at_123) (by decide) ?_
     refine XS.land X126.here hx rfl (hb hby at_124) rfl ?_
     refine XS.lstore X126.here hx rfl (hb hby at_125) rfl (l' := Ls149) rfl ?_
     show St p e below T126 (mkF m 127 Ls149 []) t
     refine XS.goto X126.here hx rfl (pc0 := 127) (pc' := 254) rfl (hb hby at_127) (by decide) (by decide) ?_
     exact k)
   have q151 : ¬ ((j5 &&& (1 : Int64)) < (own_lo w134)) := fun r => ar15 g148 r
   have q152 : ¬ ((own_hi w134) < (j5 &&& (1 : Int64))) := fun r => ar16 g148 q151 r
   exact ⟨(j5 &&& (1 : Int64)), _, _, X126, e126, N131, q151, q152, p150⟩
  ·
   have p153 : ∀ t, St p e below T126 (mkF m 133 Ls141 [(.int (1 : Int32)), (.int w134)]) t → S0 t := fun t k => p147 t (by
     refine XS.ifYes X126.here hx rfl (pc0 := 118) (pc' := 130) rfl (hb hby at_118) rfl ((if0 _ _).trans (feq g148).2) (by decide) (by decide) ?_
     refine XS.iload X126.here hx rfl (hb hby at_130) rfl ?_
     refine XT.iconstV X126.here hx rfl (1 : Int32) (hb hby at_132) (by decide) ?_
     exact k)
   by_cases g154 : w134 = (1 : Int32)
   ·
    let Ls155 : Array Slot := #[.val (.long j0), .second, .val (.long j1), .second, .val (.long j2), .second, .val (.int i3), .val (.int i4), .val (.long j5), .second, .val (.long w4), .second, .val (.ref o17), .val (.int w134), .val (.long (j5 &&& (65535 : Int64))), .second, .unset, .unset, .unset, .unset, .unset]
    have p156 : ∀ t, St p e below T126 (mkF m 254 Ls155 []) t → S0 t := fun t k => p153 t (by
      refine XS.icmpNo X126.here hx rfl (hb hby at_133) rfl (teq g154).2 ?_
      refine XS.lload X126.here hx rfl (hb hby at_136) rfl ?_
      refine X126.ldc2J hx hown (mvT hZ (ww hw 4 rfl)) rfl (hb hby at_138) ?_
      refine XS.land X126.here hx rfl (hb hby at_141) rfl ?_
      refine XS.lstore X126.here hx rfl (hb hby at_142) rfl (l' := Ls155) rfl ?_
      show St p e below T126 (mkF m 144 Ls155 []) t
      refine XS.goto X126.here hx rfl (pc0 := 144) (pc' := 254) rfl (hb hby at_144) (by decide) (by decide) ?_
      exact k)
    have q157 : ¬ ((j5 &&& (65535 : Int64)) < (own_lo w134)) := fun r => ar17 g154 r
    have q158 : ¬ ((own_hi w134) < (j5 &&& (65535 : Int64))) := fun r => ar18 g154 q157 r
    exact ⟨(j5 &&& (65535 : Int64)), _, _, X126, e126, N131, q157, q158, p156⟩
   ·
    have p159 : ∀ t, St p e below T126 (mkF m 150 Ls141 [(.int (2 : Int32)), (.int w134)]) t → S0 t := fun t k => p153 t (by
      refine XS.icmpYes X126.here hx rfl (pc0 := 133) (pc' := 147) rfl (hb hby at_133) rfl (feq g154).2 (by decide) (by decide) ?_
      refine XS.iload X126.here hx rfl (hb hby at_147) rfl ?_
      refine XT.iconstV X126.here hx rfl (2 : Int32) (hb hby at_149) (by decide) ?_
      exact k)
    by_cases g160 : w134 = (2 : Int32)
    ·
     let Ls161 : Array Slot := #[.val (.long j0), .second, .val (.long j1), .second, .val (.long j2), .second, .val (.int i3), .val (.int i4), .val (.long j5), .second, .val (.long w4), .second, .val (.ref o17), .val (.int w134), .val (.long (j5 &&& (4294967295 : Int64))), .second, .unset, .unset, .unset, .unset, .unset]
     have p162 : ∀ t, St p e below T126 (mkF m 165 Ls161 [(.int (lcmpW (j5 &&& (4294967295 : Int64)) (0 : Int64)))]) t → S0 t := fun t k => p159 t (by
       refine XS.icmpNo X126.here hx rfl (hb hby at_150) rfl (teq g160).2 ?_
       refine XS.lload X126.here hx rfl (hb hby at_153) rfl ?_
       refine X126.ldc2J hx hown (mvT hZ (ww hw 0 rfl)) rfl (hb hby at_155) ?_
       refine XS.land X126.here hx rfl (hb hby at_158) rfl ?_
       refine XS.lstore X126.here hx rfl (hb hby at_159) rfl (l' := Ls161) rfl ?_
       show St p e below T126 (mkF m 161 Ls161 []) t
       refine XS.lload X126.here hx rfl (hb hby at_161) rfl ?_
       refine XT.lconstV X126.here hx rfl (0 : Int64) (hb hby at_163) (by decide) ?_
       refine XS.lcmp X126.here hx rfl (hb hby at_164) rfl ?_
       exact k)
     by_cases g163 : (j5 &&& (4294967295 : Int64)) = (0 : Int64)
     ·
      let Ls164 : Array Slot := #[.val (.long j0), .second, .val (.long j1), .second, .val (.long j2), .second, .val (.int i3), .val (.int i4), .val (.long j5), .second, .val (.long w4), .second, .val (.ref o17), .val (.int w134), .val (.long (1 : Int64)), .second, .unset, .unset, .unset, .unset, .unset]
      have p165 : ∀ t, St p e below T126 (mkF m 254 Ls164 []) t → S0 t := fun t k => p162 t (by
        refine XS.ifNo X126.here hx rfl (hb hby at_165) rfl ((if0 _ _).trans (teq ((lw_eq _ _).mpr g163)).2) ?_
        refine XT.lconstV X126.here hx rfl (1 : Int64) (hb hby at_168) (by decide) ?_
        refine XS.lstore X126.here hx rfl (hb hby at_169) rfl (l' := Ls164) rfl ?_
        refine XS.goto X126.here hx rfl (pc0 := 171) (pc' := 254) rfl (hb hby at_171) (by decide) (by decide) ?_
        exact k)
      have q166 : ¬ ((1 : Int64) < (own_lo w134)) := fun r => ar19 g160 r
      have q167 : ¬ ((own_hi w134) < (1 : Int64)) := fun r => ar20 g160 r
      exact ⟨(1 : Int64), _, _, X126, e126, N131, q166, q167, p165⟩
     ·
      have p168 : ∀ t, St p e below T126 (mkF m 254 Ls161 []) t → S0 t := fun t k => p162 t (by
        refine XS.ifYes X126.here hx rfl (pc0 := 165) (pc' := 254) rfl (hb hby at_165) rfl ((if0 _ _).trans (feq (mt (lw_eq _ _).mp g163)).2) (by decide) (by decide) ?_
        exact k)
      have q169 : ¬ ((j5 &&& (4294967295 : Int64)) < (own_lo w134)) := fun r => ar21 g160 g163 r
      have q170 : ¬ ((own_hi w134) < (j5 &&& (4294967295 : Int64))) := fun r => ar22 g160 g163 q169 r
      exact ⟨(j5 &&& (4294967295 : Int64)), _, _, X126, e126, N131, q169, q170, p168⟩
    ·
     have p171 : ∀ t, St p e below T126 (mkF m 177 Ls141 [(.int (3 : Int32)), (.int w134)]) t → S0 t := fun t k => p159 t (by
       refine XS.icmpYes X126.here hx rfl (pc0 := 150) (pc' := 174) rfl (hb hby at_150) rfl (feq g160).2 (by decide) (by decide) ?_
       refine XS.iload X126.here hx rfl (hb hby at_174) rfl ?_
       refine XT.iconstV X126.here hx rfl (3 : Int32) (hb hby at_176) (by decide) ?_
       exact k)
     by_cases g172 : w134 = (3 : Int32)
     ·
      let Ls173 : Array Slot := #[.val (.long j0), .second, .val (.long j1), .second, .val (.long j2), .second, .val (.int i3), .val (.int i4), .val (.long j5), .second, .val (.long w4), .second, .val (.ref o17), .val (.int w134), .val (.long (j5 &&& (65535 : Int64))), .second, .unset, .unset, .unset, .unset, .unset]
      have p174 : ∀ t, St p e below T126 (mkF m 254 Ls173 []) t → S0 t := fun t k => p171 t (by
        refine XS.icmpNo X126.here hx rfl (hb hby at_177) rfl (teq g172).2 ?_
        refine XS.lload X126.here hx rfl (hb hby at_180) rfl ?_
        refine X126.ldc2J hx hown (mvT hZ (ww hw 4 rfl)) rfl (hb hby at_182) ?_
        refine XS.land X126.here hx rfl (hb hby at_185) rfl ?_
        refine XS.lstore X126.here hx rfl (hb hby at_186) rfl (l' := Ls173) rfl ?_
        show St p e below T126 (mkF m 188 Ls173 []) t
        refine XS.goto X126.here hx rfl (pc0 := 188) (pc' := 254) rfl (hb hby at_188) (by decide) (by decide) ?_
        exact k)
      have q175 : ¬ ((j5 &&& (65535 : Int64)) < (own_lo w134)) := fun r => ar23 g172 r
      have q176 : ¬ ((own_hi w134) < (j5 &&& (65535 : Int64))) := fun r => ar24 g172 q175 r
      exact ⟨(j5 &&& (65535 : Int64)), _, _, X126, e126, N131, q175, q176, p174⟩
     ·
      have p177 : ∀ t, St p e below T126 (mkF m 194 Ls141 [(.int (4 : Int32)), (.int w134)]) t → S0 t := fun t k => p171 t (by
        refine XS.icmpYes X126.here hx rfl (pc0 := 177) (pc' := 191) rfl (hb hby at_177) rfl (feq g172).2 (by decide) (by decide) ?_
        refine XS.iload X126.here hx rfl (hb hby at_191) rfl ?_
        refine XT.iconstV X126.here hx rfl (4 : Int32) (hb hby at_193) (by decide) ?_
        exact k)
      by_cases g178 : w134 = (4 : Int32)
      ·
       let Ls179 : Array Slot := #[.val (.long j0), .second, .val (.long j1), .second, .val (.long j2), .second, .val (.int i3), .val (.int i4), .val (.long j5), .second, .val (.long w4), .second, .val (.ref o17), .val (.int w134), .val (.long (j5 &&& (65535 : Int64))), .second, .unset, .unset, .unset, .unset, .unset]
       have p180 : ∀ t, St p e below T126 (mkF m 254 Ls179 []) t → S0 t := fun t k => p177 t (by
         refine XS.icmpNo X126.here hx rfl (hb hby at_194) rfl (teq g178).2 ?_
         refine XS.lload X126.here hx rfl (hb hby at_197) rfl ?_
         refine X126.ldc2J hx hown (mvT hZ (ww hw 4 rfl)) rfl (hb hby at_199) ?_
         refine XS.land X126.here hx rfl (hb hby at_202) rfl ?_
         refine XS.lstore X126.here hx rfl (hb hby at_203) rfl (l' := Ls179) rfl ?_
         show St p e below T126 (mkF m 205 Ls179 []) t
         refine XS.goto X126.here hx rfl (pc0 := 205) (pc' := 254) rfl (hb hby at_205) (by decide) (by decide) ?_
         exact k)
       have q181 : ¬ ((j5 &&& (65535 : Int64)) < (own_lo w134)) := fun r => ar25 g178 r
       have q182 : ¬ ((own_hi w134) < (j5 &&& (65535 : Int64))) := fun r => ar26 g178 q181 r
       exact ⟨(j5 &&& (65535 : Int64)), _, _, X126, e126, N131, q181, q182, p180⟩
      ·
       have p183 : ∀ t, St p e below T126 (mkF m 211 Ls141 [(.int (5 : Int32)), (.int w134)]) t → S0 t := fun t k => p177 t (by
         refine XS.icmpYes X126.here hx rfl (pc0 := 194) (pc' := 208) rfl (hb hby at_194) rfl (feq g178).2 (by decide) (by decide) ?_
         refine XS.iload X126.here hx rfl (hb hby at_208) rfl ?_
         refine XT.iconstV X126.here hx rfl (5 : Int32) (hb hby at_210) (by decide) ?_
         exact k)
       by_cases g184 : w134 = (5 : Int32)
       ·
        let Ls185 : Array Slot := #[.val (.long j0), .second, .val (.long j1), .second, .val (.long j2), .second, .val (.int i3), .val (.int i4), .val (.long j5), .second, .val (.long w4), .second, .val (.ref o17), .val (.int w134), .val (.long (j5 &&& (4294967295 : Int64))), .second, .unset, .unset, .unset, .unset, .unset]
        have p186 : ∀ t, St p e below T126 (mkF m 254 Ls185 []) t → S0 t := fun t k => p183 t (by
          refine XS.icmpNo X126.here hx rfl (hb hby at_211) rfl (teq g184).2 ?_
          refine XS.lload X126.here hx rfl (hb hby at_214) rfl ?_
          refine X126.ldc2J hx hown (mvT hZ (ww hw 0 rfl)) rfl (hb hby at_216) ?_
          refine XS.land X126.here hx rfl (hb hby at_219) rfl ?_
          refine XS.lstore X126.here hx rfl (hb hby at_220) rfl (l' := Ls185) rfl ?_
          show St p e below T126 (mkF m 222 Ls185 []) t
          refine XS.goto X126.here hx rfl (pc0 := 222) (pc' := 254) rfl (hb hby at_222) (by decide) (by decide) ?_
          exact k)
        have q187 : ¬ ((j5 &&& (4294967295 : Int64)) < (own_lo w134)) := fun r => ar27 g184 r
        have q188 : ¬ ((own_hi w134) < (j5 &&& (4294967295 : Int64))) := fun r => ar28 g184 q187 r
        exact ⟨(j5 &&& (4294967295 : Int64)), _, _, X126, e126, N131, q187, q188, p186⟩
       ·
        have p189 : ∀ t, St p e below T126 (mkF m 229 Ls141 [(.int (6 : Int32)), (.int w134)]) t → S0 t := fun t k => p183 t (by
          refine XS.icmpYes X126.here hx rfl (pc0 := 211) (pc' := 225) rfl (hb hby at_211) rfl (feq g184).2 (by decide) (by decide) ?_
          refine XS.iload X126.here hx rfl (hb hby at_225) rfl ?_
          refine XT.bipushV X126.here hx rfl (6 : Int32) (hb hby at_227) (by decide) ?_
          exact k)
        by_cases g190 : w134 = (6 : Int32)
        ·
         let Ls191 : Array Slot := #[.val (.long j0), .second, .val (.long j1), .second, .val (.long j2), .second, .val (.int i3), .val (.int i4), .val (.long j5), .second, .val (.long w4), .second, .val (.ref o17), .val (.int w134), .val (.long j5), .second, .unset, .unset, .unset, .unset, .unset]
         have p192 : ∀ t, St p e below T126 (mkF m 254 Ls191 []) t → S0 t := fun t k => p189 t (by
           refine XS.icmpNo X126.here hx rfl (hb hby at_229) rfl (teq g190).2 ?_
           refine XS.lload X126.here hx rfl (hb hby at_232) rfl ?_
           refine XS.lstore X126.here hx rfl (hb hby at_234) rfl (l' := Ls191) rfl ?_
           refine XS.goto X126.here hx rfl (pc0 := 236) (pc' := 254) rfl (hb hby at_236) (by decide) (by decide) ?_
           exact k)
         have q193 : ¬ (j5 < (own_lo w134)) := fun r => ar29 g190 r
         have q194 : ¬ ((own_hi w134) < j5) := fun r => ar30 g190 q193 r
         exact ⟨j5, _, _, X126, e126, N131, q193, q194, p192⟩
        ·
         have p195 : ∀ t, St p e below T126 (mkF m 243 Ls141 [(.int (7 : Int32)), (.int w134)]) t → S0 t := fun t k => p189 t (by
           refine XS.icmpYes X126.here hx rfl (pc0 := 229) (pc' := 239) rfl (hb hby at_229) rfl (feq g190).2 (by decide) (by decide) ?_
           refine XS.iload X126.here hx rfl (hb hby at_239) rfl ?_
           refine XT.bipushV X126.here hx rfl (7 : Int32) (hb hby at_241) (by decide) ?_
           exact k)
         by_cases g196 : w134 = (7 : Int32)
         ·
          let Ls197 : Array Slot := #[.val (.long j0), .second, .val (.long j1), .second, .val (.long j2), .second, .val (.int i3), .val (.int i4), .val (.long j5), .second, .val (.long w4), .second, .val (.ref o17), .val (.int w134), .val (.long (j5 &&& (4294967295 : Int64))), .second, .unset, .unset, .unset, .unset, .unset]
          have p198 : ∀ t, St p e below T126 (mkF m 254 Ls197 []) t → S0 t := fun t k => p195 t (by
            refine XS.icmpNo X126.here hx rfl (hb hby at_243) rfl (teq g196).2 ?_
            refine XS.lload X126.here hx rfl (hb hby at_246) rfl ?_
            refine X126.ldc2J hx hown (mvT hZ (ww hw 0 rfl)) rfl (hb hby at_248) ?_
            refine XS.land X126.here hx rfl (hb hby at_251) rfl ?_
            refine XS.lstore X126.here hx rfl (hb hby at_252) rfl (l' := Ls197) rfl ?_
            exact k)
          have q199 : ¬ ((j5 &&& (4294967295 : Int64)) < (own_lo w134)) := fun r => ar31 g196 r
          have q200 : ¬ ((own_hi w134) < (j5 &&& (4294967295 : Int64))) := fun r => ar32 g196 q199 r
          exact ⟨(j5 &&& (4294967295 : Int64)), _, _, X126, e126, N131, q199, q200, p198⟩
         ·
          have p201 : ∀ t, St p e below T126 (mkF m 254 Ls141 []) t → S0 t := fun t k => p195 t (by
            refine XS.icmpYes X126.here hx rfl (pc0 := 243) (pc' := 254) rfl (hb hby at_243) rfl (feq g196).2 (by decide) (by decide) ?_
            exact k)
          have q202 : ¬ ((0 : Int64) < (own_lo w134)) := fun r => ar33 g138 g139 g148 g154 g160 g172 g178 g184 g190 g196 r
          have q203 : ¬ ((own_hi w134) < (0 : Int64)) := fun r => ar34 g138 g139 g148 g154 g160 g172 g178 g184 g190 g196 q202 r
          exact ⟨(0 : Int64), _, _, X126, e126, N131, q202, q203, p201⟩
 let Ls204 : Array Slot := #[.val (.long j0), .second, .val (.long j1), .second, .val (.long j2), .second, .val (.int i3), .val (.int i4), .val (.long j5), .second, .val (.long w4), .second, .val (.ref o17), .val (.int w134), .val (.long w143), .second, .unset, .unset, .unset, .unset, .unset]
 have p205 : ∀ t, St p e below Tj144 (mkF m 256 Ls204 [(.int (8 : Int32))]) t → S0 t := fun t k => pj144 t (by
   refine XT.bipushV Xj144.here hx rfl (8 : Int32) (hb hby at_254) (by decide) ?_
   exact k)
 obtain ⟨T206, h206, k206, X206, e206, E206, A206, st206⟩ := newP Xj144 hx hZ (ww hw 1 rfl) ej144 (g := (mkF m 256 Ls204 [(.int (8 : Int32))])) rfl (hb hby at_256) rfl (by decide) (cap := 8) (by decide) (by decide) (by decide) (by decide)
 obtain ⟨o206, gq206⟩ : ∃ z, z = (h126).size := ⟨_, rfl⟩
 rw [← gq206] at A206 st206
 have gb_o206 : n0 ≤ o206 := Nat.le_trans (own_old_le O127) (Nat.le_of_eq gq206.symm)
 have sz_o206 : h0.size ≤ o206 := Nat.le_trans (K128).1 (Nat.le_of_eq gq206.symm)
 have ne_o17_o206 : o17 ≠ o206 := Nat.ne_of_lt (Nat.lt_of_lt_of_le V_130.lt (Nat.le_of_eq gq206.symm))
 have V_207 := V_130.ext E206
 have O208 := O127.ext E206
 have K209 := K128.ext E206
 have hk210 := Nat.le_trans hk129 E206.1
 have V_211 : Arv Z h206 o206 k206 .long (8 : Int32) [(.long (0 : Int64)), (.long (0 : Int64)), (.long (0 : Int64)), (.long (0 : Int64)), (.long (0 : Int64)), (.long (0 : Int64)), (.long (0 : Int64)), (.long (0 : Int64))] (.long (0 : Int64)) := (Arv.new A206 (by decide)).pad (pad_rep [] (.long (0 : Int64)) 8)
 have p212 : ∀ t, St p e below T206 (mkF m 258 Ls204 [(.ref o206)]) t → S0 t := fun t k => p205 t (st206 t k)
 have p213 : ∀ t, St p e below T206 (mkF m 263 Ls204 [(.int (0 : Int32)), (.ref o17), (.int (0 : Int32)), (.ref o206), (.ref o206)]) t → S0 t := fun t k => p212 t (by
   refine XS.dup X206.here hx rfl (hb hby at_258) rfl rfl ?_
   refine XT.iconstV X206.here hx rfl (0 : Int32) (hb hby at_259) (by decide) ?_
   refine XS.aload X206.here hx rfl (hb hby at_260) rfl rfl ?_
   refine XT.iconstV X206.here hx rfl (0 : Int32) (hb hby at_262) (by decide) ?_
   exact k)
 obtain ⟨cl214, Ar214, -, Sz214, -, Hs214, -⟩ := id V_207
 have hin214 : ¬ ((0 : Int32) < 0 ∨ cl214.slots.size ≤ (0 : Int32).toNatClampNeg) := inb_of Sz214 ⟨by decide, by decide⟩
 have hat214 : cl214.slots[(0 : Int32).toNatClampNeg]? = some (.long w25) := Hs214.at hin214 rfl
 have p215 : ∀ t, St p e below T206 (mkF m 264 Ls204 [(.long w25), (.int (0 : Int32)), (.ref o206), (.ref o206)]) t → S0 t := fun t k => p213 t (by
   refine X206.laload hx (j := (0 : Int32)) (v := (.long w25)) (by rw [e206]; exact Ar214.1) (State.isArrayOf_alike hZ.alike Ar214.2.1) Ar214.2.2 hin214 hat214 (g := (mkF m 263 Ls204 [(.int (0 : Int32)), (.ref o17), (.int (0 : Int32)), (.ref o206), (.ref o206)])) rfl rfl (hb hby at_263) _ ?_
   exact k)
 obtain ⟨cl216, Ar216, q216, Sz216, Nn216, Hs216, Gf216⟩ := id V_211
 have hin216 : ¬ ((0 : Int32) < 0 ∨ cl216.slots.size ≤ (0 : Int32).toNatClampNeg) := inb_of Sz216 ⟨by decide, by decide⟩
 obtain ⟨T216, h216, X216, e216, W216, st216⟩ := stJ X206 hx hZ e206 Ar216 (j := (0 : Int32)) hin216 (g := (mkF m 264 Ls204 [(.long w25), (.int (0 : Int32)), (.ref o206), (.ref o206)])) rfl rfl (hb hby at_264)
 have V_217 := V_207.other W216 ne_o17_o206
 have O218 := O208.wr W216 gb_o206
 have K219 := K209.wr W216 (Or.inr sz_o206)
 have hk220 := Nat.le_trans hk210 (Keep.of_wr W216).1
 have V_221 : Arv Z h216 o206 k206 .long (8 : Int32) [(.long w25), (.long (0 : Int64)), (.long (0 : Int64)), (.long (0 : Int64)), (.long (0 : Int64)), (.long (0 : Int64)), (.long (0 : Int64)), (.long (0 : Int64))] (.long (0 : Int64)) := Arv.set Ar216 q216 Sz216 Nn216 Hs216 Gf216 rfl W216 0 rfl (Nat.le_of_ble_eq_true rfl)
 have N222 := Fr.snoc X216 Nj144 gb_o206
 have p223 : ∀ t, St p e below T216 (mkF m 265 Ls204 [(.ref o206)]) t → S0 t := fun t k => p215 t (st216 t k)
 have p224 : ∀ t, St p e below T216 (mkF m 270 Ls204 [(.int (1 : Int32)), (.ref o17), (.int (1 : Int32)), (.ref o206), (.ref o206)]) t → S0 t := fun t k => p223 t (by
   refine XS.dup X216.here hx rfl (hb hby at_265) rfl rfl ?_
   refine XT.iconstV X216.here hx rfl (1 : Int32) (hb hby at_266) (by decide) ?_
   refine XS.aload X216.here hx rfl (hb hby at_267) rfl rfl ?_
   refine XT.iconstV X216.here hx rfl (1 : Int32) (hb hby at_269) (by decide) ?_
   exact k)
 obtain ⟨cl225, Ar225, -, Sz225, -, Hs225, -⟩ := id V_217
 have hin225 : ¬ ((1 : Int32) < 0 ∨ cl225.slots.size ≤ (1 : Int32).toNatClampNeg) := inb_of Sz225 ⟨by decide, by decide⟩
 have hat225 : cl225.slots[(1 : Int32).toNatClampNeg]? = some (.long w42) := Hs225.at hin225 rfl
 have p226 : ∀ t, St p e below T216 (mkF m 271 Ls204 [(.long w42), (.int (1 : Int32)), (.ref o206), (.ref o206)]) t → S0 t := fun t k => p224 t (by
   refine X216.laload hx (j := (1 : Int32)) (v := (.long w42)) (by rw [e216]; exact Ar225.1) (State.isArrayOf_alike hZ.alike Ar225.2.1) Ar225.2.2 hin225 hat225 (g := (mkF m 270 Ls204 [(.int (1 : Int32)), (.ref o17), (.int (1 : Int32)), (.ref o206), (.ref o206)])) rfl rfl (hb hby at_270) _ ?_
   exact k)
 obtain ⟨cl227, Ar227, q227, Sz227, Nn227, Hs227, Gf227⟩ := id V_221
 have hin227 : ¬ ((1 : Int32) < 0 ∨ cl227.slots.size ≤ (1 : Int32).toNatClampNeg) := inb_of Sz227 ⟨by decide, by decide⟩
 obtain ⟨T227, h227, X227, e227, W227, st227⟩ := stJ X216 hx hZ e216 Ar227 (j := (1 : Int32)) hin227 (g := (mkF m 271 Ls204 [(.long w42), (.int (1 : Int32)), (.ref o206), (.ref o206)])) rfl rfl (hb hby at_271)
 have V_228 := V_217.other W227 ne_o17_o206
 have O229 := O218.wr W227 gb_o206
 have K230 := K219.wr W227 (Or.inr sz_o206)
 have hk231 := Nat.le_trans hk220 (Keep.of_wr W227).1
 have V_232 : Arv Z h227 o206 k206 .long (8 : Int32) [(.long w25), (.long w42), (.long (0 : Int64)), (.long (0 : Int64)), (.long (0 : Int64)), (.long (0 : Int64)), (.long (0 : Int64)), (.long (0 : Int64))] (.long (0 : Int64)) := Arv.set Ar227 q227 Sz227 Nn227 Hs227 Gf227 rfl W227 1 rfl (Nat.le_of_ble_eq_true rfl)
 have N233 := Fr.snoc X227 N222 gb_o206
 have p234 : ∀ t, St p e below T227 (mkF m 272 Ls204 [(.ref o206)]) t → S0 t := fun t k => p226 t (st227 t k)
 have p235 : ∀ t, St p e below T227 (mkF m 277 Ls204 [(.int (2 : Int32)), (.ref o17), (.int (2 : Int32)), (.ref o206), (.ref o206)]) t → S0 t := fun t k => p234 t (by
   refine XS.dup X227.here hx rfl (hb hby at_272) rfl rfl ?_
   refine XT.iconstV X227.here hx rfl (2 : Int32) (hb hby at_273) (by decide) ?_
   refine XS.aload X227.here hx rfl (hb hby at_274) rfl rfl ?_
   refine XT.iconstV X227.here hx rfl (2 : Int32) (hb hby at_276) (by decide) ?_
   exact k)
 obtain ⟨cl236, Ar236, -, Sz236, -, Hs236, -⟩ := id V_228
 have hin236 : ¬ ((2 : Int32) < 0 ∨ cl236.slots.size ≤ (2 : Int32).toNatClampNeg) := inb_of Sz236 ⟨by decide, by decide⟩
 have hat236 : cl236.slots[(2 : Int32).toNatClampNeg]? = some (.long w4) := Hs236.at hin236 rfl
 have p237 : ∀ t, St p e below T227 (mkF m 278 Ls204 [(.long w4), (.int (2 : Int32)), (.ref o206), (.ref o206)]) t → S0 t := fun t k => p235 t (by
   refine X227.laload hx (j := (2 : Int32)) (v := (.long w4)) (by rw [e227]; exact Ar236.1) (State.isArrayOf_alike hZ.alike Ar236.2.1) Ar236.2.2 hin236 hat236 (g := (mkF m 277 Ls204 [(.int (2 : Int32)), (.ref o17), (.int (2 : Int32)), (.ref o206), (.ref o206)])) rfl rfl (hb hby at_277) _ ?_
   exact k)
 obtain ⟨cl238, Ar238, q238, Sz238, Nn238, Hs238, Gf238⟩ := id V_232
 have hin238 : ¬ ((2 : Int32) < 0 ∨ cl238.slots.size ≤ (2 : Int32).toNatClampNeg) := inb_of Sz238 ⟨by decide, by decide⟩
 obtain ⟨T238, h238, X238, e238, W238, st238⟩ := stJ X227 hx hZ e227 Ar238 (j := (2 : Int32)) hin238 (g := (mkF m 278 Ls204 [(.long w4), (.int (2 : Int32)), (.ref o206), (.ref o206)])) rfl rfl (hb hby at_278)
 have V_239 := V_228.other W238 ne_o17_o206
 have O240 := O229.wr W238 gb_o206
 have K241 := K230.wr W238 (Or.inr sz_o206)
 have hk242 := Nat.le_trans hk231 (Keep.of_wr W238).1
 have V_243 : Arv Z h238 o206 k206 .long (8 : Int32) [(.long w25), (.long w42), (.long w4), (.long (0 : Int64)), (.long (0 : Int64)), (.long (0 : Int64)), (.long (0 : Int64)), (.long (0 : Int64))] (.long (0 : Int64)) := Arv.set Ar238 q238 Sz238 Nn238 Hs238 Gf238 rfl W238 2 rfl (Nat.le_of_ble_eq_true rfl)
 have N244 := Fr.snoc X238 N233 gb_o206
 have p245 : ∀ t, St p e below T238 (mkF m 279 Ls204 [(.ref o206)]) t → S0 t := fun t k => p237 t (st238 t k)
 have p246 : ∀ t, St p e below T238 (mkF m 284 Ls204 [(.int (3 : Int32)), (.ref o17), (.int (3 : Int32)), (.ref o206), (.ref o206)]) t → S0 t := fun t k => p245 t (by
   refine XS.dup X238.here hx rfl (hb hby at_279) rfl rfl ?_
   refine XT.iconstV X238.here hx rfl (3 : Int32) (hb hby at_280) (by decide) ?_
   refine XS.aload X238.here hx rfl (hb hby at_281) rfl rfl ?_
   refine XT.iconstV X238.here hx rfl (3 : Int32) (hb hby at_283) (by decide) ?_
   exact k)
 obtain ⟨cl247, Ar247, -, Sz247, -, Hs247, -⟩ := id V_239
 have hin247 : ¬ ((3 : Int32) < 0 ∨ cl247.slots.size ≤ (3 : Int32).toNatClampNeg) := inb_of Sz247 ⟨by decide, by decide⟩
 have hat247 : cl247.slots[(3 : Int32).toNatClampNeg]? = some (.long w66) := Hs247.at hin247 rfl
 have p248 : ∀ t, St p e below T238 (mkF m 285 Ls204 [(.long w66), (.int (3 : Int32)), (.ref o206), (.ref o206)]) t → S0 t := fun t k => p246 t (by
   refine X238.laload hx (j := (3 : Int32)) (v := (.long w66)) (by rw [e238]; exact Ar247.1) (State.isArrayOf_alike hZ.alike Ar247.2.1) Ar247.2.2 hin247 hat247 (g := (mkF m 284 Ls204 [(.int (3 : Int32)), (.ref o17), (.int (3 : Int32)), (.ref o206), (.ref o206)])) rfl rfl (hb hby at_284) _ ?_
   exact k)
 obtain ⟨cl249, Ar249, q249, Sz249, Nn249, Hs249, Gf249⟩ := id V_243
 have hin249 : ¬ ((3 : Int32) < 0 ∨ cl249.slots.size ≤ (3 : Int32).toNatClampNeg) := inb_of Sz249 ⟨by decide, by decide⟩
 obtain ⟨T249, h249, X249, e249, W249, st249⟩ := stJ X238 hx hZ e238 Ar249 (j := (3 : Int32)) hin249 (g := (mkF m 285 Ls204 [(.long w66), (.int (3 : Int32)), (.ref o206), (.ref o206)])) rfl rfl (hb hby at_285)
 have V_250 := V_239.other W249 ne_o17_o206
 have O251 := O240.wr W249 gb_o206
 have K252 := K241.wr W249 (Or.inr sz_o206)
 have hk253 := Nat.le_trans hk242 (Keep.of_wr W249).1
 have V_254 : Arv Z h249 o206 k206 .long (8 : Int32) [(.long w25), (.long w42), (.long w4), (.long w66), (.long (0 : Int64)), (.long (0 : Int64)), (.long (0 : Int64)), (.long (0 : Int64))] (.long (0 : Int64)) := Arv.set Ar249 q249 Sz249 Nn249 Hs249 Gf249 rfl W249 3 rfl (Nat.le_of_ble_eq_true rfl)
 have N255 := Fr.snoc X249 N244 gb_o206
 have p256 : ∀ t, St p e below T249 (mkF m 286 Ls204 [(.ref o206)]) t → S0 t := fun t k => p248 t (st249 t k)
 have p257 : ∀ t, St p e below T249 (mkF m 291 Ls204 [(.int (4 : Int32)), (.ref o17), (.int (4 : Int32)), (.ref o206), (.ref o206)]) t → S0 t := fun t k => p256 t (by
   refine XS.dup X249.here hx rfl (hb hby at_286) rfl rfl ?_
   refine XT.iconstV X249.here hx rfl (4 : Int32) (hb hby at_287) (by decide) ?_
   refine XS.aload X249.here hx rfl (hb hby at_288) rfl rfl ?_
   refine XT.iconstV X249.here hx rfl (4 : Int32) (hb hby at_290) (by decide) ?_
   exact k)
 obtain ⟨cl258, Ar258, -, Sz258, -, Hs258, -⟩ := id V_250
 have hin258 : ¬ ((4 : Int32) < 0 ∨ cl258.slots.size ≤ (4 : Int32).toNatClampNeg) := inb_of Sz258 ⟨by decide, by decide⟩
 have hat258 : cl258.slots[(4 : Int32).toNatClampNeg]? = some (.long w82) := Hs258.at hin258 rfl
 have p259 : ∀ t, St p e below T249 (mkF m 292 Ls204 [(.long w82), (.int (4 : Int32)), (.ref o206), (.ref o206)]) t → S0 t := fun t k => p257 t (by
   refine X249.laload hx (j := (4 : Int32)) (v := (.long w82)) (by rw [e249]; exact Ar258.1) (State.isArrayOf_alike hZ.alike Ar258.2.1) Ar258.2.2 hin258 hat258 (g := (mkF m 291 Ls204 [(.int (4 : Int32)), (.ref o17), (.int (4 : Int32)), (.ref o206), (.ref o206)])) rfl rfl (hb hby at_291) _ ?_
   exact k)
 obtain ⟨cl260, Ar260, q260, Sz260, Nn260, Hs260, Gf260⟩ := id V_254
 have hin260 : ¬ ((4 : Int32) < 0 ∨ cl260.slots.size ≤ (4 : Int32).toNatClampNeg) := inb_of Sz260 ⟨by decide, by decide⟩
 obtain ⟨T260, h260, X260, e260, W260, st260⟩ := stJ X249 hx hZ e249 Ar260 (j := (4 : Int32)) hin260 (g := (mkF m 292 Ls204 [(.long w82), (.int (4 : Int32)), (.ref o206), (.ref o206)])) rfl rfl (hb hby at_292)
 have V_261 := V_250.other W260 ne_o17_o206
 have O262 := O251.wr W260 gb_o206
 have K263 := K252.wr W260 (Or.inr sz_o206)
 have hk264 := Nat.le_trans hk253 (Keep.of_wr W260).1
 have V_265 : Arv Z h260 o206 k206 .long (8 : Int32) [(.long w25), (.long w42), (.long w4), (.long w66), (.long w82), (.long (0 : Int64)), (.long (0 : Int64)), (.long (0 : Int64))] (.long (0 : Int64)) := Arv.set Ar260 q260 Sz260 Nn260 Hs260 Gf260 rfl W260 4 rfl (Nat.le_of_ble_eq_true rfl)
 have N266 := Fr.snoc X260 N255 gb_o206
 have p267 : ∀ t, St p e below T260 (mkF m 293 Ls204 [(.ref o206)]) t → S0 t := fun t k => p259 t (st260 t k)
 have p268 : ∀ t, St p e below T260 (mkF m 298 Ls204 [(.int (5 : Int32)), (.ref o17), (.int (5 : Int32)), (.ref o206), (.ref o206)]) t → S0 t := fun t k => p267 t (by
   refine XS.dup X260.here hx rfl (hb hby at_293) rfl rfl ?_
   refine XT.iconstV X260.here hx rfl (5 : Int32) (hb hby at_294) (by decide) ?_
   refine XS.aload X260.here hx rfl (hb hby at_295) rfl rfl ?_
   refine XT.iconstV X260.here hx rfl (5 : Int32) (hb hby at_297) (by decide) ?_
   exact k)
 obtain ⟨cl269, Ar269, -, Sz269, -, Hs269, -⟩ := id V_261
 have hin269 : ¬ ((5 : Int32) < 0 ∨ cl269.slots.size ≤ (5 : Int32).toNatClampNeg) := inb_of Sz269 ⟨by decide, by decide⟩
 have hat269 : cl269.slots[(5 : Int32).toNatClampNeg]? = some (.long w98) := Hs269.at hin269 rfl
 have p270 : ∀ t, St p e below T260 (mkF m 299 Ls204 [(.long w98), (.int (5 : Int32)), (.ref o206), (.ref o206)]) t → S0 t := fun t k => p268 t (by
   refine X260.laload hx (j := (5 : Int32)) (v := (.long w98)) (by rw [e260]; exact Ar269.1) (State.isArrayOf_alike hZ.alike Ar269.2.1) Ar269.2.2 hin269 hat269 (g := (mkF m 298 Ls204 [(.int (5 : Int32)), (.ref o17), (.int (5 : Int32)), (.ref o206), (.ref o206)])) rfl rfl (hb hby at_298) _ ?_
   exact k)
 obtain ⟨cl271, Ar271, q271, Sz271, Nn271, Hs271, Gf271⟩ := id V_265
 have hin271 : ¬ ((5 : Int32) < 0 ∨ cl271.slots.size ≤ (5 : Int32).toNatClampNeg) := inb_of Sz271 ⟨by decide, by decide⟩
 obtain ⟨T271, h271, X271, e271, W271, st271⟩ := stJ X260 hx hZ e260 Ar271 (j := (5 : Int32)) hin271 (g := (mkF m 299 Ls204 [(.long w98), (.int (5 : Int32)), (.ref o206), (.ref o206)])) rfl rfl (hb hby at_299)
 have V_272 := V_261.other W271 ne_o17_o206
 have O273 := O262.wr W271 gb_o206
 have K274 := K263.wr W271 (Or.inr sz_o206)
 have hk275 := Nat.le_trans hk264 (Keep.of_wr W271).1
 have V_276 : Arv Z h271 o206 k206 .long (8 : Int32) [(.long w25), (.long w42), (.long w4), (.long w66), (.long w82), (.long w98), (.long (0 : Int64)), (.long (0 : Int64))] (.long (0 : Int64)) := Arv.set Ar271 q271 Sz271 Nn271 Hs271 Gf271 rfl W271 5 rfl (Nat.le_of_ble_eq_true rfl)
 have N277 := Fr.snoc X271 N266 gb_o206
 have p278 : ∀ t, St p e below T271 (mkF m 300 Ls204 [(.ref o206)]) t → S0 t := fun t k => p270 t (st271 t k)
 have p279 : ∀ t, St p e below T271 (mkF m 307 Ls204 [(.int (6 : Int32)), (.ref o17), (.int (6 : Int32)), (.ref o206), (.ref o206)]) t → S0 t := fun t k => p278 t (by
   refine XS.dup X271.here hx rfl (hb hby at_300) rfl rfl ?_
   refine XT.bipushV X271.here hx rfl (6 : Int32) (hb hby at_301) (by decide) ?_
   refine XS.aload X271.here hx rfl (hb hby at_303) rfl rfl ?_
   refine XT.bipushV X271.here hx rfl (6 : Int32) (hb hby at_305) (by decide) ?_
   exact k)
 obtain ⟨cl280, Ar280, -, Sz280, -, Hs280, -⟩ := id V_272
 have hin280 : ¬ ((6 : Int32) < 0 ∨ cl280.slots.size ≤ (6 : Int32).toNatClampNeg) := inb_of Sz280 ⟨by decide, by decide⟩
 have hat280 : cl280.slots[(6 : Int32).toNatClampNeg]? = some (.long j0) := Hs280.at hin280 rfl
 have p281 : ∀ t, St p e below T271 (mkF m 308 Ls204 [(.long j0), (.int (6 : Int32)), (.ref o206), (.ref o206)]) t → S0 t := fun t k => p279 t (by
   refine X271.laload hx (j := (6 : Int32)) (v := (.long j0)) (by rw [e271]; exact Ar280.1) (State.isArrayOf_alike hZ.alike Ar280.2.1) Ar280.2.2 hin280 hat280 (g := (mkF m 307 Ls204 [(.int (6 : Int32)), (.ref o17), (.int (6 : Int32)), (.ref o206), (.ref o206)])) rfl rfl (hb hby at_307) _ ?_
   exact k)
 obtain ⟨cl282, Ar282, q282, Sz282, Nn282, Hs282, Gf282⟩ := id V_276
 have hin282 : ¬ ((6 : Int32) < 0 ∨ cl282.slots.size ≤ (6 : Int32).toNatClampNeg) := inb_of Sz282 ⟨by decide, by decide⟩
 obtain ⟨T282, h282, X282, e282, W282, st282⟩ := stJ X271 hx hZ e271 Ar282 (j := (6 : Int32)) hin282 (g := (mkF m 308 Ls204 [(.long j0), (.int (6 : Int32)), (.ref o206), (.ref o206)])) rfl rfl (hb hby at_308)
 have V_283 := V_272.other W282 ne_o17_o206
 have O284 := O273.wr W282 gb_o206
 have K285 := K274.wr W282 (Or.inr sz_o206)
 have hk286 := Nat.le_trans hk275 (Keep.of_wr W282).1
 have V_287 : Arv Z h282 o206 k206 .long (8 : Int32) [(.long w25), (.long w42), (.long w4), (.long w66), (.long w82), (.long w98), (.long j0), (.long (0 : Int64))] (.long (0 : Int64)) := Arv.set Ar282 q282 Sz282 Nn282 Hs282 Gf282 rfl W282 6 rfl (Nat.le_of_ble_eq_true rfl)
 have N288 := Fr.snoc X282 N277 gb_o206
 have p289 : ∀ t, St p e below T282 (mkF m 309 Ls204 [(.ref o206)]) t → S0 t := fun t k => p281 t (st282 t k)
 have p290 : ∀ t, St p e below T282 (mkF m 316 Ls204 [(.int (7 : Int32)), (.ref o17), (.int (7 : Int32)), (.ref o206), (.ref o206)]) t → S0 t := fun t k => p289 t (by
   refine XS.dup X282.here hx rfl (hb hby at_309) rfl rfl ?_
   refine XT.bipushV X282.here hx rfl (7 : Int32) (hb hby at_310) (by decide) ?_
   refine XS.aload X282.here hx rfl (hb hby at_312) rfl rfl ?_
   refine XT.bipushV X282.here hx rfl (7 : Int32) (hb hby at_314) (by decide) ?_
   exact k)
 obtain ⟨cl291, Ar291, -, Sz291, -, Hs291, -⟩ := id V_283
 have hin291 : ¬ ((7 : Int32) < 0 ∨ cl291.slots.size ≤ (7 : Int32).toNatClampNeg) := inb_of Sz291 ⟨by decide, by decide⟩
 have hat291 : cl291.slots[(7 : Int32).toNatClampNeg]? = some (.long w120) := Hs291.at hin291 rfl
 have p292 : ∀ t, St p e below T282 (mkF m 317 Ls204 [(.long w120), (.int (7 : Int32)), (.ref o206), (.ref o206)]) t → S0 t := fun t k => p290 t (by
   refine X282.laload hx (j := (7 : Int32)) (v := (.long w120)) (by rw [e282]; exact Ar291.1) (State.isArrayOf_alike hZ.alike Ar291.2.1) Ar291.2.2 hin291 hat291 (g := (mkF m 316 Ls204 [(.int (7 : Int32)), (.ref o17), (.int (7 : Int32)), (.ref o206), (.ref o206)])) rfl rfl (hb hby at_316) _ ?_
   exact k)
 obtain ⟨cl293, Ar293, q293, Sz293, Nn293, Hs293, Gf293⟩ := id V_287
 have hin293 : ¬ ((7 : Int32) < 0 ∨ cl293.slots.size ≤ (7 : Int32).toNatClampNeg) := inb_of Sz293 ⟨by decide, by decide⟩
 obtain ⟨T293, h293, X293, e293, W293, st293⟩ := stJ X282 hx hZ e282 Ar293 (j := (7 : Int32)) hin293 (g := (mkF m 317 Ls204 [(.long w120), (.int (7 : Int32)), (.ref o206), (.ref o206)])) rfl rfl (hb hby at_317)
 have V_294 := V_283.other W293 ne_o17_o206
 have O295 := O284.wr W293 gb_o206
 have K296 := K285.wr W293 (Or.inr sz_o206)
 have hk297 := Nat.le_trans hk286 (Keep.of_wr W293).1
 have V_298 : Arv Z h293 o206 k206 .long (8 : Int32) [(.long w25), (.long w42), (.long w4), (.long w66), (.long w82), (.long w98), (.long j0), (.long w120)] (.long (0 : Int64)) := Arv.set Ar293 q293 Sz293 Nn293 Hs293 Gf293 rfl W293 7 rfl (Nat.le_of_ble_eq_true rfl)
 have N299 := Fr.snoc X293 N288 gb_o206
 have p300 : ∀ t, St p e below T293 (mkF m 318 Ls204 [(.ref o206)]) t → S0 t := fun t k => p292 t (st293 t k)
 let Ls301 : Array Slot := #[.val (.long j0), .second, .val (.long j1), .second, .val (.long j2), .second, .val (.int i3), .val (.int i4), .val (.long j5), .second, .val (.long w4), .second, .val (.ref o17), .val (.int w134), .val (.long w143), .second, .val (.ref o206), .unset, .unset, .unset, .unset]
 have p302 : ∀ t, St p e below T293 (mkF m 320 Ls301 []) t → S0 t := fun t k => p300 t (by
   refine XS.astore X293.here hx rfl (hb hby at_318) rfl rfl (l' := Ls301) rfl ?_
   exact k)
 obtain ⟨w304, w305, w308, w309, w310, w311, w312, w313, w314, w315, w327, w329, w332, w334, oj303_0, oj303_1, Tj303, Lj303, Hj303, Vj303, kwj303, Xj303, ej303, Nj303, Oj303, Kj303, hSj303, hkj303, hZ, hown, gb_oj303_0, sz_oj303_0, gb_oj303_1, sz_oj303_1, ne_o17_oj303_0, ne_o17_oj303_1, ne_o206_oj303_0, ne_o206_oj303_1, ne_oj303_0_oj303_1, V_306, V_307, E_316, F_317, F_318, F_319, F_320, F_321, F_322, F_323, F_324, E_325, F_326, F_328, F_330, F_331, F_333, F_335, F_336, F_337, g338, g339, pj303⟩ : ∃ (w304 : Int32) (w305 : Int32) (w308 : Int64) (w309 : Int64) (w310 : Int64) (w311 : Int64) (w312 : Int64) (w313 : Int64) (w314 : Int64) (w315 : Int64) (w327 : Int32) (w329 : Int32) (w332 : Int32) (w334 : Int32) (oj303_0 : Addr) (oj303_1 : Addr) (Tj303 : State) (Lj303 : List Loc) (Hj303 : Heap) (Vj303 : Vm) (kwj303 : Nat), Stand p l e room_1 (s.setVm Vj303) m #[(.long j0), (.long j1), (.long j2), (.int i3), (.int i4), (.long j5)] below meth c Tj303 Lj303 28 456 ∧ Tj303.heap = Hj303 ∧ Fr n0 Lj303 ∧ Old Z n0 Hj303 ∧ Keep h0 Hj303 [] ∧ s.Since Vj303 kwj303 ∧ kwj303 ≤ Hj303.size ∧ Z.Warmed39 (s.setVm Vj303).vm ∧ (s.setVm Vj303).vm.findClass "com/example/vacant_throne/vacantthrone/core/HeartbeatEqualsPinLaw" = some m.cls ∧ n0 ≤ oj303_0 ∧ h0.size ≤ oj303_0 ∧ n0 ≤ oj303_1 ∧ h0.size ≤ oj303_1 ∧ o17 ≠ oj303_0 ∧ o17 ≠ oj303_1 ∧ o206 ≠ oj303_0 ∧ o206 ≠ oj303_1 ∧ oj303_0 ≠ oj303_1 ∧ Arv Z Hj303 o17 k17 .long (8 : Int32) [(.long w25), (.long w42), (.long w4), (.long w66), (.long w82), (.long w98), (.long j0), (.long w120)] (.long (0 : Int64)) ∧ Arv Z Hj303 o206 k206 .long (8 : Int32) [(.long w308), (.long w309), (.long w310), (.long w311), (.long w312), (.long w313), (.long w314), (.long w315)] (.long (0 : Int64)) ∧ Exa Z Hj303 oj303_0 "com/example/vacant_throne/vacantthrone/core/Heartbeat" ∧ Fld Z Hj303 oj303_0 "com/example/vacant_throne/vacantthrone/core/Heartbeat" "reveal" "Z" (.int ((own_nz w25) &&& (1 : Int32))) ∧ Fld Z Hj303 oj303_0 "com/example/vacant_throne/vacantthrone/core/Heartbeat" "set" "I" (.int (((w42.toInt32).toInt64).toInt32)) ∧ Fld Z Hj303 oj303_0 "com/example/vacant_throne/vacantthrone/core/Heartbeat" "sender" "J" (.long w4) ∧ Fld Z Hj303 oj303_0 "com/example/vacant_throne/vacantthrone/core/Heartbeat" "priority" "I" (.int (((w66.toInt32).toInt64).toInt32)) ∧ Fld Z Hj303 oj303_0 "com/example/vacant_throne/vacantthrone/core/Heartbeat" "periodMs" "I" (.int (((w82.toInt32).toInt64).toInt32)) ∧ Fld Z Hj303 oj303_0 "com/example/vacant_throne/vacantthrone/core/Heartbeat" "handOverTarget" "J" (.long w98) ∧ Fld Z Hj303 oj303_0 "com/example/vacant_throne/vacantthrone/core/Heartbeat" "incarnation" "J" (.long j0) ∧ Fld Z Hj303 oj303_0 "com/example/vacant_throne/vacantthrone/core/Heartbeat" "sequence" "J" (.long w120) ∧ Exa Z Hj303 oj303_1 "com/example/vacant_throne/vacantthrone/core/Heartbeat" ∧ Fld Z Hj303 oj303_1 "com/example/vacant_throne/vacantthrone/core/Heartbeat" "reveal" "Z" (.int w327) ∧ Fld Z Hj303 oj303_1 "com/example/vacant_throne/vacantthrone/core/Heartbeat" "set" "I" (.int w329) ∧ Fld Z Hj303 oj303_1 "com/example/vacant_throne/vacantthrone/core/Heartbeat" "sender" "J" (.long w310) ∧ Fld Z Hj303 oj303_1 "com/example/vacant_throne/vacantthrone/core/Heartbeat" "priority" "I" (.int w332) ∧ Fld Z Hj303 oj303_1 "com/example/vacant_throne/vacantthrone/core/Heartbeat" "periodMs" "I" (.int w334) ∧ Fld Z Hj303 oj303_1 "com/example/vacant_throne/vacantthrone/core/Heartbeat" "handOverTarget" "J" (.long w313) ∧ Fld Z Hj303 oj303_1 "com/example/vacant_throne/vacantthrone/core/Heartbeat" "incarnation" "J" (.long w314) ∧ Fld Z Hj303 oj303_1 "com/example/vacant_throne/vacantthrone/core/Heartbeat" "sequence" "J" (.long w315) ∧ (own_eq8 ((own_nz w25) &&& (1 : Int32)) (((w42.toInt32).toInt64).toInt32) w4 (((w66.toInt32).toInt64).toInt32) (((w82.toInt32).toInt64).toInt32) w98 j0 w120 w327 w329 w310 w332 w334 w313 w314 w315) = w305 ∧ (own_eq8 w327 w329 w310 w332 w334 w313 w314 w315 ((own_nz w25) &&& (1 : Int32)) (((w42.toInt32).toInt64).toInt32) w4 (((w66.toInt32).toInt64).toInt32) (((w82.toInt32).toInt64).toInt32) w98 j0 w120) = w305 ∧ ∀ t, St p e below Tj303 (mkF m 373 #[.val (.long j0), .second, .val (.long j1), .second, .val (.long j2), .second, .val (.int i3), .val (.int i4), .val (.long j5), .second, .val (.long w4), .second, .val (.ref o17), .val (.int w304), .val (.long w143), .second, .val (.ref o206), .val (.ref oj303_0), .val (.ref oj303_1), .val (.int w305), .unset] []) t → S0 t := by
  by_cases g340 : w134 = (0 : Int32)
  ·
   let Ls342 : Array Slot := #[.val (.long j0), .second, .val (.long j1), .second, .val (.long j2), .second, .val (.int i3), .val (.int i4), .val (.long j5), .second, .val (.long w4), .second, .val (.ref o17), .val (.int (0 : Int32)), .val (.long w143), .second, .val (.ref o206), .unset, .unset, .unset, .unset]
   have p341 : ∀ t, St p e below T293 (mkF m 320 Ls342 []) t → S0 t := fun t k => p302 t (by show St p e below T293 (mkF m 320 #[.val (.long j0), .second, .val (.long j1), .second, .val (.long j2), .second, .val (.int i3), .val (.int i4), .val (.long j5), .second, .val (.long w4), .second, .val (.ref o17), .val (.int w134), .val (.long w143), .second, .val (.ref o206), .unset, .unset, .unset, .unset] []) t; rw [g340]; exact k)
   have p343 : ∀ t, St p e below T293 (mkF m 333 Ls342 [(.long w143), (.int (0 : Int32)), (.ref o206)]) t → S0 t := fun t k => p341 t (by
     refine XS.iload X293.here hx rfl (hb hby at_320) rfl ?_
     refine XT.bipushV X293.here hx rfl (8 : Int32) (hb hby at_322) (by decide) ?_
     refine XS.icmpNo X293.here hx rfl (hb hby at_324) rfl (tlt (by decide : (0 : Int32) < (8 : Int32))).2.1 ?_
     refine XS.aload X293.here hx rfl (hb hby at_327) rfl rfl ?_
     refine XS.iload X293.here hx rfl (hb hby at_329) rfl ?_
     show St p e below T293 (mkF m 331 Ls342 [(.int (0 : Int32)), (.ref o206)]) t
     refine XS.lload X293.here hx rfl (hb hby at_331) rfl ?_
     exact k)
   obtain ⟨cl344, Ar344, q344, Sz344, Nn344, Hs344, Gf344⟩ := id V_298
   have hin344 : ¬ ((0 : Int32) < 0 ∨ cl344.slots.size ≤ (0 : Int32).toNatClampNeg) := inb_of Sz344 ⟨by decide, by decide⟩
   obtain ⟨T344, h344, X344, e344, W344, st344⟩ := stJ X293 hx hZ e293 Ar344 (j := (0 : Int32)) hin344 (g := (mkF m 333 Ls342 [(.long w143), (.int (0 : Int32)), (.ref o206)])) rfl rfl (hb hby at_333)
   have V_345 := V_294.other W344 ne_o17_o206
   have O346 := O295.wr W344 gb_o206
   have K347 := K296.wr W344 (Or.inr sz_o206)
   have hk348 := Nat.le_trans hk297 (Keep.of_wr W344).1
   have V_349 : Arv Z h344 o206 k206 .long (8 : Int32) [(.long w143), (.long w42), (.long w4), (.long w66), (.long w82), (.long w98), (.long j0), (.long w120)] (.long (0 : Int64)) := Arv.set Ar344 q344 Sz344 Nn344 Hs344 Gf344 rfl W344 0 rfl (Nat.le_of_ble_eq_true rfl)
   have N350 := Fr.snoc X344 N299 gb_o206
   have p351 : ∀ t, St p e below T344 (mkF m 334 Ls342 []) t → S0 t := fun t k => p343 t (st344 t k)
   have p352 : ∀ t, St p e below T344 (mkF m 336 Ls342 [(.ref o17)]) t → S0 t := fun t k => p351 t (by
     refine XS.aload X344.here hx rfl (hb hby at_334) rfl rfl ?_
     exact k)
   have q353 : ¬ (((w42.toInt32).toInt64) < (0 : Int64)) := fun r => ar37 g47 g48 g49 r
   have q354 : ¬ ((65535 : Int64) < ((w42.toInt32).toInt64)) := fun r => ar38 g47 g48 g49 q353 r
   have q355 : ¬ (((w66.toInt32).toInt64) < (0 : Int64)) := fun r => ar37 g71 g72 g73 r
   have q356 : ¬ ((65535 : Int64) < ((w66.toInt32).toInt64)) := fun r => ar38 g71 g72 g73 q355 r
   have q357 : ¬ (((w82.toInt32).toInt64) < (0 : Int64)) := fun r => ar37 g87 g88 g89 r
   have q358 : ¬ ((65535 : Int64) < ((w82.toInt32).toInt64)) := fun r => ar38 g87 g88 g89 q357 r
   obtain ⟨_, _, ⟨Tc359, Lc359, kc359, nc359⟩, -, Xrc359, hSrc359, hgrc359, ⟨Lcc359, hQc359, lc359, yc359, zc359⟩, stc359⟩ := callSS X344 hx (y := M2) hown (mvT hZ (ww hw 6 rfl)) (mvT hZ (ww hw 7 rfl)) (mvT hZ (ww hw 8 rfl)) (mvT hZ (ww hw 9 rfl)) (by decide) (backOfS (W := 0) (rm1_0 l Z a0 hw [] a_cache clC w25 w42 w4 w66 w82 w98 j0 w120 o17 k17 h344 n0 O346 HE' gb_o17 V_345 q353 q354 g6 g7 q355 q356 q357 q358 g102 g103 g124 g125) hZ (ww hw 9 rfl) (ww hw 8 rfl) (by decide) (by decide)) (g := (mkF m 336 Ls342 [(.ref o17)])) rfl (by rw [hml]; rfl) (argsL := [(.ref o17)]) (rest := []) (lenOf pd2 rfl) rfl (by show 2 * 0 + _ ≤ _; exact Nat.le_of_eq rfl) (hb hby at_336) (fun _ _ => ⟨rfl, e344, (by decide : 2 + 13 ≤ _), (by decide : 16 + 220 ≤ _)⟩)
   dsimp only [Pt.U, Pt.locs, Pt.cells, Pt.slots] at Xrc359 hSrc359 hgrc359 lc359 yc359 zc359 stc359 hQc359
   subst lc359 yc359 zc359
   obtain ⟨Xc359, hSc359, hZ, hown⟩ := rebS hS0 (by rw [e344]; exact hk348) Xrc359 hSrc359 hgrc359 hZ hown
   obtain ⟨Nqc359, hAc359⟩ := hQc359
   have Nc359 := Fr.app N350 Nqc359
   obtain ⟨o1_c359, rfl, Kcc359, gn_o1_c359, zn_o1_c359, f_360, f_361, f_362, f_363, f_364, f_365, f_366, f_367, f_368⟩ := hAc359
   have ne_o17_o1_c359 : o17 ≠ o1_c359 := Nat.ne_of_lt (Nat.lt_of_lt_of_le V_345.lt zn_o1_c359)
   have ne_o206_o1_c359 : o206 ≠ o1_c359 := Nat.ne_of_lt (Nat.lt_of_lt_of_le V_349.lt zn_o1_c359)
   have sz_o1_c359 : h0.size ≤ o1_c359 := Nat.le_trans (K347).1 zn_o1_c359
   have V_369 := V_345.keep Kcc359 nin0
   have V_370 := V_349.keep Kcc359 nin0
   have O371 := O346.keep Kcc359 all0
   have K372 := Keep.trans K347 Kcc359 all0
   have p373 : ∀ t, St p e below Tc359 (mkF m 339 Ls342 [(.ref o1_c359)]) t → S0 t := fun t k => p352 t (stc359.trans k)
   let Ls374 : Array Slot := #[.val (.long j0), .second, .val (.long j1), .second, .val (.long j2), .second, .val (.int i3), .val (.int i4), .val (.long j5), .second, .val (.long w4), .second, .val (.ref o17), .val (.int (0 : Int32)), .val (.long w143), .second, .val (.ref o206), .val (.ref o1_c359), .unset, .unset, .unset]
   have p375 : ∀ t, St p e below Tc359 (mkF m 343 Ls374 [(.ref o206)]) t → S0 t := fun t k => p373 t (by
     refine XS.astore Xc359.here hx rfl (hb hby at_339) rfl rfl (l' := Ls374) rfl ?_
     refine XS.aload Xc359.here hx rfl (hb hby at_341) rfl rfl ?_
     exact k)
   obtain ⟨_, _, ⟨Tc376, Lc376, kc376, nc376⟩, -, Xrc376, hSrc376, hgrc376, ⟨Lcc376, hQc376, lc376, yc376, zc376⟩, stc376⟩ := callSS Xc359 hx (y := M2) hown (mvT hZ (ww hw 6 rfl)) (mvT hZ (ww hw 7 rfl)) (mvT hZ (ww hw 8 rfl)) (mvT hZ (ww hw 9 rfl)) (by decide) (backOfS (W := 0) (rm1_0 l Z a0 hw [] a_cache clC w143 w42 w4 w66 w82 w98 j0 w120 o206 k206 Tc359.heap n0 O371 HE' gb_o206 V_370 q353 q354 g6 g7 q355 q356 q357 q358 g102 g103 g124 g125) hZ (ww hw 9 rfl) (ww hw 8 rfl) (by decide) (by decide)) (g := (mkF m 343 Ls374 [(.ref o206)])) rfl (by rw [hml]; rfl) (argsL := [(.ref o206)]) (rest := []) (lenOf pd2 rfl) rfl (by show 2 * 0 + _ ≤ _; exact Nat.le_of_eq rfl) (hb hby at_343) (fun _ _ => ⟨rfl, rfl, (by decide : 15 + 13 ≤ _), (by decide : 236 + 220 ≤ _)⟩)
   dsimp only [Pt.U, Pt.locs, Pt.cells, Pt.slots] at Xrc376 hSrc376 hgrc376 lc376 yc376 zc376 stc376 hQc376
   subst lc376 yc376 zc376
   obtain ⟨Xc376, hSc376, hZ, hown⟩ := rebS hSc359 ((Nat.le_refl _)) Xrc376 hSrc376 hgrc376 hZ hown
   obtain ⟨Nqc376, hAc376⟩ := hQc376
   have Nc376 := Fr.app Nc359 Nqc376
   obtain ⟨o1_c376, rfl, Kcc376, gn_o1_c376, zn_o1_c376, f_377, f_378, f_379, f_380, f_381, f_382, f_383, f_384, f_385⟩ := hAc376
   have ne_o17_o1_c376 : o17 ≠ o1_c376 := Nat.ne_of_lt (Nat.lt_of_lt_of_le V_369.lt zn_o1_c376)
   have ne_o206_o1_c376 : o206 ≠ o1_c376 := Nat.ne_of_lt (Nat.lt_of_lt_of_le V_370.lt zn_o1_c376)
   have ne_o1_c359_o1_c376 : o1_c359 ≠ o1_c376 := Nat.ne_of_lt (Nat.lt_of_lt_of_le f_360.lt zn_o1_c376)
   have sz_o1_c376 : h0.size ≤ o1_c376 := Nat.le_trans (K372).1 zn_o1_c376
   have V_386 := V_369.keep Kcc376 nin0
   have V_387 := V_370.keep Kcc376 nin0
   have E_388 := f_360.keep Kcc376
   have F_389 := f_361.keep Kcc376 nin0
   have F_390 := f_362.keep Kcc376 nin0
   have F_391 := f_363.keep Kcc376 nin0
   have F_392 := f_364.keep Kcc376 nin0
   have F_393 := f_365.keep Kcc376 nin0
   have F_394 := f_366.keep Kcc376 nin0
   have F_395 := f_367.keep Kcc376 nin0
   have F_396 := f_368.keep Kcc376 nin0
   have O397 := O371.keep Kcc376 all0
   have K398 := Keep.trans K372 Kcc376 all0
   have p399 : ∀ t, St p e below Tc376 (mkF m 346 Ls374 [(.ref o1_c376)]) t → S0 t := fun t k => p375 t (stc376.trans k)
   let Ls400 : Array Slot := #[.val (.long j0), .second, .val (.long j1), .second, .val (.long j2), .second, .val (.int i3), .val (.int i4), .val (.long j5), .second, .val (.long w4), .second, .val (.ref o17), .val (.int (0 : Int32)), .val (.long w143), .second, .val (.ref o206), .val (.ref o1_c359), .val (.ref o1_c376), .unset, .unset]
   have p401 : ∀ t, St p e below Tc376 (mkF m 361 Ls400 [(.int (0 : Int32)), (.ref o17), (.long w143)]) t → S0 t := fun t k => p399 t (by
     refine XS.astore Xc376.here hx rfl (hb hby at_346) rfl rfl (l' := Ls400) rfl ?_
     refine XS.iload Xc376.here hx rfl (hb hby at_348) rfl ?_
     refine XT.bipushV Xc376.here hx rfl (8 : Int32) (hb hby at_350) (by decide) ?_
     refine XS.icmpNo Xc376.here hx rfl (hb hby at_352) rfl (feq (by decide : ¬ ((0 : Int32) = (8 : Int32)))).1 ?_
     refine XS.lload Xc376.here hx rfl (hb hby at_355) rfl ?_
     show St p e below Tc376 (mkF m 357 Ls400 [(.long w143)]) t
     refine XS.aload Xc376.here hx rfl (hb hby at_357) rfl rfl ?_
     refine XS.iload Xc376.here hx rfl (hb hby at_359) rfl ?_
     exact k)
   obtain ⟨cl402, Ar402, -, Sz402, -, Hs402, -⟩ := id V_386
   have hin402 : ¬ ((0 : Int32) < 0 ∨ cl402.slots.size ≤ (0 : Int32).toNatClampNeg) := inb_of Sz402 ⟨by decide, by decide⟩
   have hat402 : cl402.slots[(0 : Int32).toNatClampNeg]? = some (.long w25) := Hs402.at hin402 rfl
   have p403 : ∀ t, St p e below Tc376 (mkF m 363 Ls400 [(.int (lcmpW w143 w25))]) t → S0 t := fun t k => p401 t (by
     refine Xc376.laload hx (j := (0 : Int32)) (v := (.long w25)) Ar402.1 (State.isArrayOf_alike hZ.alike Ar402.2.1) Ar402.2.2 hin402 hat402 (g := (mkF m 361 Ls400 [(.int (0 : Int32)), (.ref o17), (.long w143)])) rfl rfl (hb hby at_361) _ ?_
     refine XS.lcmp Xc376.here hx rfl (hb hby at_362) rfl ?_
     exact k)
   by_cases g404 : w143 = w25
   ·
    let Ls405 : Array Slot := #[.val (.long j0), .second, .val (.long j1), .second, .val (.long j2), .second, .val (.int i3), .val (.int i4), .val (.long j5), .second, .val (.long w4), .second, .val (.ref o17), .val (.int (0 : Int32)), .val (.long w143), .second, .val (.ref o206), .val (.ref o1_c359), .val (.ref o1_c376), .val (.int (1 : Int32)), .unset]
    have p406 : ∀ t, St p e below Tc376 (mkF m 373 Ls405 []) t → S0 t := fun t k => p403 t (by
      refine XS.ifNo Xc376.here hx rfl (hb hby at_363) rfl ((if0 _ _).trans (teq ((lw_eq _ _).mpr g404)).2) ?_
      refine XT.iconstV Xc376.here hx rfl (1 : Int32) (hb hby at_366) (by decide) ?_
      refine XS.goto Xc376.here hx rfl (pc0 := 367) (pc' := 371) rfl (hb hby at_367) (by decide) (by decide) ?_
      refine XS.istore Xc376.here hx rfl (hb hby at_371) rfl (l' := Ls405) rfl ?_
      exact k)
    have q407 : ((own_nz w25) &&& (1 : Int32)) = ((own_nz w143) &&& (1 : Int32)) := Decidable.byContradiction fun r => ar52 g340 g27 g28 g145 g146 g404 r
    have q408 : ((own_nz w143) &&& (1 : Int32)) = ((own_nz w25) &&& (1 : Int32)) := Decidable.byContradiction fun r => ar53 g340 g27 g28 g145 g146 g404 r
    exact ⟨(0 : Int32), (1 : Int32), w143, w42, w4, w66, w82, w98, j0, w120, ((own_nz w143) &&& (1 : Int32)), (((w42.toInt32).toInt64).toInt32), (((w66.toInt32).toInt64).toInt32), (((w82.toInt32).toInt64).toInt32), o1_c359, o1_c376, Tc376, _, Tc376.heap, _, _, Xc376, rfl, Nc376, O397, K398, hSc376, (Nat.le_refl _), hZ, hown, gn_o1_c359, sz_o1_c359, gn_o1_c376, sz_o1_c376, ne_o17_o1_c359, ne_o17_o1_c376, ne_o206_o1_c359, ne_o206_o1_c376, ne_o1_c359_o1_c376, V_386, V_387, E_388, F_389, F_390, F_391, F_392, F_393, F_394, F_395, F_396, f_377, f_378, f_379, f_380, f_381, f_382, f_383, f_384, f_385, (own_eq8_1 q407 rfl rfl rfl rfl rfl rfl rfl), (own_eq8_1 q408 rfl rfl rfl rfl rfl rfl rfl), p406⟩
   ·
    let Ls409 : Array Slot := #[.val (.long j0), .second, .val (.long j1), .second, .val (.long j2), .second, .val (.int i3), .val (.int i4), .val (.long j5), .second, .val (.long w4), .second, .val (.ref o17), .val (.int (0 : Int32)), .val (.long w143), .second, .val (.ref o206), .val (.ref o1_c359), .val (.ref o1_c376), .val (.int (0 : Int32)), .unset]
    have p410 : ∀ t, St p e below Tc376 (mkF m 373 Ls409 []) t → S0 t := fun t k => p403 t (by
      refine XS.ifYes Xc376.here hx rfl (pc0 := 363) (pc' := 370) rfl (hb hby at_363) rfl ((if0 _ _).trans (feq (mt (lw_eq _ _).mp g404)).2) (by decide) (by decide) ?_
      refine XT.iconstV Xc376.here hx rfl (0 : Int32) (hb hby at_370) (by decide) ?_
      refine XS.istore Xc376.here hx rfl (hb hby at_371) rfl (l' := Ls409) rfl ?_
      exact k)
    have q411 : ¬ (((own_nz w25) &&& (1 : Int32)) = ((own_nz w143) &&& (1 : Int32))) := fun r => ar54 g340 g27 g28 g145 g146 g404 r
    have q412 : ¬ (((own_nz w143) &&& (1 : Int32)) = ((own_nz w25) &&& (1 : Int32))) := fun r => ar55 g340 g27 g28 g145 g146 g404 r
    exact ⟨(0 : Int32), (0 : Int32), w143, w42, w4, w66, w82, w98, j0, w120, ((own_nz w143) &&& (1 : Int32)), (((w42.toInt32).toInt64).toInt32), (((w66.toInt32).toInt64).toInt32), (((w82.toInt32).toInt64).toInt32), o1_c359, o1_c376, Tc376, _, Tc376.heap, _, _, Xc376, rfl, Nc376, O397, K398, hSc376, (Nat.le_refl _), hZ, hown, gn_o1_c359, sz_o1_c359, gn_o1_c376, sz_o1_c376, ne_o17_o1_c359, ne_o17_o1_c376, ne_o206_o1_c359, ne_o206_o1_c376, ne_o1_c359_o1_c376, V_386, V_387, E_388, F_389, F_390, F_391, F_392, F_393, F_394, F_395, F_396, f_377, f_378, f_379, f_380, f_381, f_382, f_383, f_384, f_385, (own_eq8_n0 q411), (own_eq8_n0 q412), p410⟩
  ·
   by_cases g413 : w134 = (1 : Int32)
   ·
    let Ls415 : Array Slot := #[.val (.long j0), .second, .val (.long j1), .second, .val (.long j2), .second, .val (.int i3), .val (.int i4), .val (.long j5), .second, .val (.long w4), .second, .val (.ref o17), .val (.int (1 : Int32)), .val (.long w143), .second, .val (.ref o206), .unset, .unset, .unset, .unset]
    have p414 : ∀ t, St p e below T293 (mkF m 320 Ls415 []) t → S0 t := fun t k => p302 t (by show St p e below T293 (mkF m 320 #[.val (.long j0), .second, .val (.long j1), .second, .val (.long j2), .second, .val (.int i3), .val (.int i4), .val (.long j5), .second, .val (.long w4), .second, .val (.ref o17), .val (.int w134), .val (.long w143), .second, .val (.ref o206), .unset, .unset, .unset, .unset] []) t; rw [g413]; exact k)
    have p416 : ∀ t, St p e below T293 (mkF m 333 Ls415 [(.long w143), (.int (1 : Int32)), (.ref o206)]) t → S0 t := fun t k => p414 t (by
      refine XS.iload X293.here hx rfl (hb hby at_320) rfl ?_
      refine XT.bipushV X293.here hx rfl (8 : Int32) (hb hby at_322) (by decide) ?_
      refine XS.icmpNo X293.here hx rfl (hb hby at_324) rfl (tlt (by decide : (1 : Int32) < (8 : Int32))).2.1 ?_
      refine XS.aload X293.here hx rfl (hb hby at_327) rfl rfl ?_
      refine XS.iload X293.here hx rfl (hb hby at_329) rfl ?_
      show St p e below T293 (mkF m 331 Ls415 [(.int (1 : Int32)), (.ref o206)]) t
      refine XS.lload X293.here hx rfl (hb hby at_331) rfl ?_
      exact k)
    obtain ⟨cl417, Ar417, q417, Sz417, Nn417, Hs417, Gf417⟩ := id V_298
    have hin417 : ¬ ((1 : Int32) < 0 ∨ cl417.slots.size ≤ (1 : Int32).toNatClampNeg) := inb_of Sz417 ⟨by decide, by decide⟩
    obtain ⟨T417, h417, X417, e417, W417, st417⟩ := stJ X293 hx hZ e293 Ar417 (j := (1 : Int32)) hin417 (g := (mkF m 333 Ls415 [(.long w143), (.int (1 : Int32)), (.ref o206)])) rfl rfl (hb hby at_333)
    have V_418 := V_294.other W417 ne_o17_o206
    have O419 := O295.wr W417 gb_o206
    have K420 := K296.wr W417 (Or.inr sz_o206)
    have hk421 := Nat.le_trans hk297 (Keep.of_wr W417).1
    have V_422 : Arv Z h417 o206 k206 .long (8 : Int32) [(.long w25), (.long w143), (.long w4), (.long w66), (.long w82), (.long w98), (.long j0), (.long w120)] (.long (0 : Int64)) := Arv.set Ar417 q417 Sz417 Nn417 Hs417 Gf417 rfl W417 1 rfl (Nat.le_of_ble_eq_true rfl)
    have N423 := Fr.snoc X417 N299 gb_o206
    have p424 : ∀ t, St p e below T417 (mkF m 334 Ls415 []) t → S0 t := fun t k => p416 t (st417 t k)
    have p425 : ∀ t, St p e below T417 (mkF m 336 Ls415 [(.ref o17)]) t → S0 t := fun t k => p424 t (by
      refine XS.aload X417.here hx rfl (hb hby at_334) rfl rfl ?_
      exact k)
    have q426 : ¬ (((w42.toInt32).toInt64) < (0 : Int64)) := fun r => ar37 g47 g48 g49 r
    have q427 : ¬ ((65535 : Int64) < ((w42.toInt32).toInt64)) := fun r => ar38 g47 g48 g49 q426 r
    have q428 : ¬ (((w66.toInt32).toInt64) < (0 : Int64)) := fun r => ar37 g71 g72 g73 r
    have q429 : ¬ ((65535 : Int64) < ((w66.toInt32).toInt64)) := fun r => ar38 g71 g72 g73 q428 r
    have q430 : ¬ (((w82.toInt32).toInt64) < (0 : Int64)) := fun r => ar37 g87 g88 g89 r
    have q431 : ¬ ((65535 : Int64) < ((w82.toInt32).toInt64)) := fun r => ar38 g87 g88 g89 q430 r
    obtain ⟨_, _, ⟨Tc432, Lc432, kc432, nc432⟩, -, Xrc432, hSrc432, hgrc432, ⟨Lcc432, hQc432, lc432, yc432, zc432⟩, stc432⟩ := callSS X417 hx (y := M2) hown (mvT hZ (ww hw 6 rfl)) (mvT hZ (ww hw 7 rfl)) (mvT hZ (ww hw 8 rfl)) (mvT hZ (ww hw 9 rfl)) (by decide) (backOfS (W := 0) (rm1_0 l Z a0 hw [] a_cache clC w25 w42 w4 w66 w82 w98 j0 w120 o17 k17 h417 n0 O419 HE' gb_o17 V_418 q426 q427 g6 g7 q428 q429 q430 q431 g102 g103 g124 g125) hZ (ww hw 9 rfl) (ww hw 8 rfl) (by decide) (by decide)) (g := (mkF m 336 Ls415 [(.ref o17)])) rfl (by rw [hml]; rfl) (argsL := [(.ref o17)]) (rest := []) (lenOf pd2 rfl) rfl (by show 2 * 0 + _ ≤ _; exact Nat.le_of_eq rfl) (hb hby at_336) (fun _ _ => ⟨rfl, e417, (by decide : 2 + 13 ≤ _), (by decide : 16 + 220 ≤ _)⟩)
    dsimp only [Pt.U, Pt.locs, Pt.cells, Pt.slots] at Xrc432 hSrc432 hgrc432 lc432 yc432 zc432 stc432 hQc432
    subst lc432 yc432 zc432
    obtain ⟨Xc432, hSc432, hZ, hown⟩ := rebS hS0 (by rw [e417]; exact hk421) Xrc432 hSrc432 hgrc432 hZ hown
    obtain ⟨Nqc432, hAc432⟩ := hQc432
    have Nc432 := Fr.app N423 Nqc432
    obtain ⟨o1_c432, rfl, Kcc432, gn_o1_c432, zn_o1_c432, f_433, f_434, f_435, f_436, f_437, f_438, f_439, f_440, f_441⟩ := hAc432
    have ne_o17_o1_c432 : o17 ≠ o1_c432 := Nat.ne_of_lt (Nat.lt_of_lt_of_le V_418.lt zn_o1_c432)
    have ne_o206_o1_c432 : o206 ≠ o1_c432 := Nat.ne_of_lt (Nat.lt_of_lt_of_le V_422.lt zn_o1_c432)
    have sz_o1_c432 : h0.size ≤ o1_c432 := Nat.le_trans (K420).1 zn_o1_c432
    have V_442 := V_418.keep Kcc432 nin0
    have V_443 := V_422.keep Kcc432 nin0
    have O444 := O419.keep Kcc432 all0
    have K445 := Keep.trans K420 Kcc432 all0
    have p446 : ∀ t, St p e below Tc432 (mkF m 339 Ls415 [(.ref o1_c432)]) t → S0 t := fun t k => p425 t (stc432.trans k)
    let Ls447 : Array Slot := #[.val (.long j0), .second, .val (.long j1), .second, .val (.long j2), .second, .val (.int i3), .val (.int i4), .val (.long j5), .second, .val (.long w4), .second, .val (.ref o17), .val (.int (1 : Int32)), .val (.long w143), .second, .val (.ref o206), .val (.ref o1_c432), .unset, .unset, .unset]
    have p448 : ∀ t, St p e below Tc432 (mkF m 343 Ls447 [(.ref o206)]) t → S0 t := fun t k => p446 t (by
      refine XS.astore Xc432.here hx rfl (hb hby at_339) rfl rfl (l' := Ls447) rfl ?_
      refine XS.aload Xc432.here hx rfl (hb hby at_341) rfl rfl ?_
      exact k)
    have q449 : ¬ (((w143.toInt32).toInt64) < (0 : Int64)) := fun r => ar39 g413 g145 g146 r
    have q450 : ¬ ((65535 : Int64) < ((w143.toInt32).toInt64)) := fun r => ar40 g413 g145 g146 q449 r
    obtain ⟨_, _, ⟨Tc451, Lc451, kc451, nc451⟩, -, Xrc451, hSrc451, hgrc451, ⟨Lcc451, hQc451, lc451, yc451, zc451⟩, stc451⟩ := callSS Xc432 hx (y := M2) hown (mvT hZ (ww hw 6 rfl)) (mvT hZ (ww hw 7 rfl)) (mvT hZ (ww hw 8 rfl)) (mvT hZ (ww hw 9 rfl)) (by decide) (backOfS (W := 0) (rm1_0 l Z a0 hw [] a_cache clC w25 w143 w4 w66 w82 w98 j0 w120 o206 k206 Tc432.heap n0 O444 HE' gb_o206 V_443 q449 q450 g6 g7 q428 q429 q430 q431 g102 g103 g124 g125) hZ (ww hw 9 rfl) (ww hw 8 rfl) (by decide) (by decide)) (g := (mkF m 343 Ls447 [(.ref o206)])) rfl (by rw [hml]; rfl) (argsL := [(.ref o206)]) (rest := []) (lenOf pd2 rfl) rfl (by show 2 * 0 + _ ≤ _; exact Nat.le_of_eq rfl) (hb hby at_343) (fun _ _ => ⟨rfl, rfl, (by decide : 15 + 13 ≤ _), (by decide : 236 + 220 ≤ _)⟩)
    dsimp only [Pt.U, Pt.locs, Pt.cells, Pt.slots] at Xrc451 hSrc451 hgrc451 lc451 yc451 zc451 stc451 hQc451
    subst lc451 yc451 zc451
    obtain ⟨Xc451, hSc451, hZ, hown⟩ := rebS hSc432 ((Nat.le_refl _)) Xrc451 hSrc451 hgrc451 hZ hown
    obtain ⟨Nqc451, hAc451⟩ := hQc451
    have Nc451 := Fr.app Nc432 Nqc451
    obtain ⟨o1_c451, rfl, Kcc451, gn_o1_c451, zn_o1_c451, f_452, f_453, f_454, f_455, f_456, f_457, f_458, f_459, f_460⟩ := hAc451
    have ne_o17_o1_c451 : o17 ≠ o1_c451 := Nat.ne_of_lt (Nat.lt_of_lt_of_le V_442.lt zn_o1_c451)
    have ne_o206_o1_c451 : o206 ≠ o1_c451 := Nat.ne_of_lt (Nat.lt_of_lt_of_le V_443.lt zn_o1_c451)
    have ne_o1_c432_o1_c451 : o1_c432 ≠ o1_c451 := Nat.ne_of_lt (Nat.lt_of_lt_of_le f_433.lt zn_o1_c451)
    have sz_o1_c451 : h0.size ≤ o1_c451 := Nat.le_trans (K445).1 zn_o1_c451
    have V_461 := V_442.keep Kcc451 nin0
    have V_462 := V_443.keep Kcc451 nin0
    have E_463 := f_433.keep Kcc451
    have F_464 := f_434.keep Kcc451 nin0
    have F_465 := f_435.keep Kcc451 nin0
    have F_466 := f_436.keep Kcc451 nin0
    have F_467 := f_437.keep Kcc451 nin0
    have F_468 := f_438.keep Kcc451 nin0
    have F_469 := f_439.keep Kcc451 nin0
    have F_470 := f_440.keep Kcc451 nin0
    have F_471 := f_441.keep Kcc451 nin0
    have O472 := O444.keep Kcc451 all0
    have K473 := Keep.trans K445 Kcc451 all0
    have p474 : ∀ t, St p e below Tc451 (mkF m 346 Ls447 [(.ref o1_c451)]) t → S0 t := fun t k => p448 t (stc451.trans k)
    let Ls475 : Array Slot := #[.val (.long j0), .second, .val (.long j1), .second, .val (.long j2), .second, .val (.int i3), .val (.int i4), .val (.long j5), .second, .val (.long w4), .second, .val (.ref o17), .val (.int (1 : Int32)), .val (.long w143), .second, .val (.ref o206), .val (.ref o1_c432), .val (.ref o1_c451), .unset, .unset]
    have p476 : ∀ t, St p e below Tc451 (mkF m 361 Ls475 [(.int (1 : Int32)), (.ref o17), (.long w143)]) t → S0 t := fun t k => p474 t (by
      refine XS.astore Xc451.here hx rfl (hb hby at_346) rfl rfl (l' := Ls475) rfl ?_
      refine XS.iload Xc451.here hx rfl (hb hby at_348) rfl ?_
      refine XT.bipushV Xc451.here hx rfl (8 : Int32) (hb hby at_350) (by decide) ?_
      refine XS.icmpNo Xc451.here hx rfl (hb hby at_352) rfl (feq (by decide : ¬ ((1 : Int32) = (8 : Int32)))).1 ?_
      refine XS.lload Xc451.here hx rfl (hb hby at_355) rfl ?_
      show St p e below Tc451 (mkF m 357 Ls475 [(.long w143)]) t
      refine XS.aload Xc451.here hx rfl (hb hby at_357) rfl rfl ?_
      refine XS.iload Xc451.here hx rfl (hb hby at_359) rfl ?_
      exact k)
    obtain ⟨cl477, Ar477, -, Sz477, -, Hs477, -⟩ := id V_461
    have hin477 : ¬ ((1 : Int32) < 0 ∨ cl477.slots.size ≤ (1 : Int32).toNatClampNeg) := inb_of Sz477 ⟨by decide, by decide⟩
    have hat477 : cl477.slots[(1 : Int32).toNatClampNeg]? = some (.long w42) := Hs477.at hin477 rfl
    have p478 : ∀ t, St p e below Tc451 (mkF m 363 Ls475 [(.int (lcmpW w143 w42))]) t → S0 t := fun t k => p476 t (by
      refine Xc451.laload hx (j := (1 : Int32)) (v := (.long w42)) Ar477.1 (State.isArrayOf_alike hZ.alike Ar477.2.1) Ar477.2.2 hin477 hat477 (g := (mkF m 361 Ls475 [(.int (1 : Int32)), (.ref o17), (.long w143)])) rfl rfl (hb hby at_361) _ ?_
      refine XS.lcmp Xc451.here hx rfl (hb hby at_362) rfl ?_
      exact k)
    by_cases g479 : w143 = w42
    ·
     let Ls480 : Array Slot := #[.val (.long j0), .second, .val (.long j1), .second, .val (.long j2), .second, .val (.int i3), .val (.int i4), .val (.long j5), .second, .val (.long w4), .second, .val (.ref o17), .val (.int (1 : Int32)), .val (.long w143), .second, .val (.ref o206), .val (.ref o1_c432), .val (.ref o1_c451), .val (.int (1 : Int32)), .unset]
     have p481 : ∀ t, St p e below Tc451 (mkF m 373 Ls480 []) t → S0 t := fun t k => p478 t (by
       refine XS.ifNo Xc451.here hx rfl (hb hby at_363) rfl ((if0 _ _).trans (teq ((lw_eq _ _).mpr g479)).2) ?_
       refine XT.iconstV Xc451.here hx rfl (1 : Int32) (hb hby at_366) (by decide) ?_
       refine XS.goto Xc451.here hx rfl (pc0 := 367) (pc' := 371) rfl (hb hby at_367) (by decide) (by decide) ?_
       refine XS.istore Xc451.here hx rfl (hb hby at_371) rfl (l' := Ls480) rfl ?_
       exact k)
     have q482 : (((w42.toInt32).toInt64).toInt32) = (((w143.toInt32).toInt64).toInt32) := Decidable.byContradiction fun r => ar56 g413 g47 g48 g49 g145 g146 q426 q427 q449 q450 g479 r
     have q483 : (((w143.toInt32).toInt64).toInt32) = (((w42.toInt32).toInt64).toInt32) := Decidable.byContradiction fun r => ar57 g413 g47 g48 g49 g145 g146 q426 q427 q449 q450 g479 r
     exact ⟨(1 : Int32), (1 : Int32), w25, w143, w4, w66, w82, w98, j0, w120, ((own_nz w25) &&& (1 : Int32)), (((w143.toInt32).toInt64).toInt32), (((w66.toInt32).toInt64).toInt32), (((w82.toInt32).toInt64).toInt32), o1_c432, o1_c451, Tc451, _, Tc451.heap, _, _, Xc451, rfl, Nc451, O472, K473, hSc451, (Nat.le_refl _), hZ, hown, gn_o1_c432, sz_o1_c432, gn_o1_c451, sz_o1_c451, ne_o17_o1_c432, ne_o17_o1_c451, ne_o206_o1_c432, ne_o206_o1_c451, ne_o1_c432_o1_c451, V_461, V_462, E_463, F_464, F_465, F_466, F_467, F_468, F_469, F_470, F_471, f_452, f_453, f_454, f_455, f_456, f_457, f_458, f_459, f_460, (own_eq8_1 rfl q482 rfl rfl rfl rfl rfl rfl), (own_eq8_1 rfl q483 rfl rfl rfl rfl rfl rfl), p481⟩
    ·
     let Ls484 : Array Slot := #[.val (.long j0), .second, .val (.long j1), .second, .val (.long j2), .second, .val (.int i3), .val (.int i4), .val (.long j5), .second, .val (.long w4), .second, .val (.ref o17), .val (.int (1 : Int32)), .val (.long w143), .second, .val (.ref o206), .val (.ref o1_c432), .val (.ref o1_c451), .val (.int (0 : Int32)), .unset]
     have p485 : ∀ t, St p e below Tc451 (mkF m 373 Ls484 []) t → S0 t := fun t k => p478 t (by
       refine XS.ifYes Xc451.here hx rfl (pc0 := 363) (pc' := 370) rfl (hb hby at_363) rfl ((if0 _ _).trans (feq (mt (lw_eq _ _).mp g479)).2) (by decide) (by decide) ?_
       refine XT.iconstV Xc451.here hx rfl (0 : Int32) (hb hby at_370) (by decide) ?_
       refine XS.istore Xc451.here hx rfl (hb hby at_371) rfl (l' := Ls484) rfl ?_
       exact k)
     have q486 : ¬ ((((w42.toInt32).toInt64).toInt32) = (((w143.toInt32).toInt64).toInt32)) := fun r => ar58 g413 g47 g48 g49 g145 g146 q426 q427 q449 q450 g479 r
     have q487 : ¬ ((((w143.toInt32).toInt64).toInt32) = (((w42.toInt32).toInt64).toInt32)) := fun r => ar59 g413 g47 g48 g49 g145 g146 q426 q427 q449 q450 g479 r
     exact ⟨(1 : Int32), (0 : Int32), w25, w143, w4, w66, w82, w98, j0, w120, ((own_nz w25) &&& (1 : Int32)), (((w143.toInt32).toInt64).toInt32), (((w66.toInt32).toInt64).toInt32), (((w82.toInt32).toInt64).toInt32), o1_c432, o1_c451, Tc451, _, Tc451.heap, _, _, Xc451, rfl, Nc451, O472, K473, hSc451, (Nat.le_refl _), hZ, hown, gn_o1_c432, sz_o1_c432, gn_o1_c451, sz_o1_c451, ne_o17_o1_c432, ne_o17_o1_c451, ne_o206_o1_c432, ne_o206_o1_c451, ne_o1_c432_o1_c451, V_461, V_462, E_463, F_464, F_465, F_466, F_467, F_468, F_469, F_470, F_471, f_452, f_453, f_454, f_455, f_456, f_457, f_458, f_459, f_460, (own_eq8_n1 q486), (own_eq8_n1 q487), p485⟩
   ·
    by_cases g488 : w134 = (2 : Int32)
    ·
     let Ls490 : Array Slot := #[.val (.long j0), .second, .val (.long j1), .second, .val (.long j2), .second, .val (.int i3), .val (.int i4), .val (.long j5), .second, .val (.long w4), .second, .val (.ref o17), .val (.int (2 : Int32)), .val (.long w143), .second, .val (.ref o206), .unset, .unset, .unset, .unset]
     have p489 : ∀ t, St p e below T293 (mkF m 320 Ls490 []) t → S0 t := fun t k => p302 t (by show St p e below T293 (mkF m 320 #[.val (.long j0), .second, .val (.long j1), .second, .val (.long j2), .second, .val (.int i3), .val (.int i4), .val (.long j5), .second, .val (.long w4), .second, .val (.ref o17), .val (.int w134), .val (.long w143), .second, .val (.ref o206), .unset, .unset, .unset, .unset] []) t; rw [g488]; exact k)
     have p491 : ∀ t, St p e below T293 (mkF m 333 Ls490 [(.long w143), (.int (2 : Int32)), (.ref o206)]) t → S0 t := fun t k => p489 t (by
       refine XS.iload X293.here hx rfl (hb hby at_320) rfl ?_
       refine XT.bipushV X293.here hx rfl (8 : Int32) (hb hby at_322) (by decide) ?_
       refine XS.icmpNo X293.here hx rfl (hb hby at_324) rfl (tlt (by decide : (2 : Int32) < (8 : Int32))).2.1 ?_
       refine XS.aload X293.here hx rfl (hb hby at_327) rfl rfl ?_
       refine XS.iload X293.here hx rfl (hb hby at_329) rfl ?_
       show St p e below T293 (mkF m 331 Ls490 [(.int (2 : Int32)), (.ref o206)]) t
       refine XS.lload X293.here hx rfl (hb hby at_331) rfl ?_
       exact k)
     obtain ⟨cl492, Ar492, q492, Sz492, Nn492, Hs492, Gf492⟩ := id V_298
     have hin492 : ¬ ((2 : Int32) < 0 ∨ cl492.slots.size ≤ (2 : Int32).toNatClampNeg) := inb_of Sz492 ⟨by decide, by decide⟩
     obtain ⟨T492, h492, X492, e492, W492, st492⟩ := stJ X293 hx hZ e293 Ar492 (j := (2 : Int32)) hin492 (g := (mkF m 333 Ls490 [(.long w143), (.int (2 : Int32)), (.ref o206)])) rfl rfl (hb hby at_333)
     have V_493 := V_294.other W492 ne_o17_o206
     have O494 := O295.wr W492 gb_o206
     have K495 := K296.wr W492 (Or.inr sz_o206)
     have hk496 := Nat.le_trans hk297 (Keep.of_wr W492).1
     have V_497 : Arv Z h492 o206 k206 .long (8 : Int32) [(.long w25), (.long w42), (.long w143), (.long w66), (.long w82), (.long w98), (.long j0), (.long w120)] (.long (0 : Int64)) := Arv.set Ar492 q492 Sz492 Nn492 Hs492 Gf492 rfl W492 2 rfl (Nat.le_of_ble_eq_true rfl)
     have N498 := Fr.snoc X492 N299 gb_o206
     have p499 : ∀ t, St p e below T492 (mkF m 334 Ls490 []) t → S0 t := fun t k => p491 t (st492 t k)
     have p500 : ∀ t, St p e below T492 (mkF m 336 Ls490 [(.ref o17)]) t → S0 t := fun t k => p499 t (by
       refine XS.aload X492.here hx rfl (hb hby at_334) rfl rfl ?_
       exact k)
     have q501 : ¬ (((w42.toInt32).toInt64) < (0 : Int64)) := fun r => ar37 g47 g48 g49 r
     have q502 : ¬ ((65535 : Int64) < ((w42.toInt32).toInt64)) := fun r => ar38 g47 g48 g49 q501 r
     have q503 : ¬ (((w66.toInt32).toInt64) < (0 : Int64)) := fun r => ar37 g71 g72 g73 r
     have q504 : ¬ ((65535 : Int64) < ((w66.toInt32).toInt64)) := fun r => ar38 g71 g72 g73 q503 r
     have q505 : ¬ (((w82.toInt32).toInt64) < (0 : Int64)) := fun r => ar37 g87 g88 g89 r
     have q506 : ¬ ((65535 : Int64) < ((w82.toInt32).toInt64)) := fun r => ar38 g87 g88 g89 q505 r
     obtain ⟨_, _, ⟨Tc507, Lc507, kc507, nc507⟩, -, Xrc507, hSrc507, hgrc507, ⟨Lcc507, hQc507, lc507, yc507, zc507⟩, stc507⟩ := callSS X492 hx (y := M2) hown (mvT hZ (ww hw 6 rfl)) (mvT hZ (ww hw 7 rfl)) (mvT hZ (ww hw 8 rfl)) (mvT hZ (ww hw 9 rfl)) (by decide) (backOfS (W := 0) (rm1_0 l Z a0 hw [] a_cache clC w25 w42 w4 w66 w82 w98 j0 w120 o17 k17 h492 n0 O494 HE' gb_o17 V_493 q501 q502 g6 g7 q503 q504 q505 q506 g102 g103 g124 g125) hZ (ww hw 9 rfl) (ww hw 8 rfl) (by decide) (by decide)) (g := (mkF m 336 Ls490 [(.ref o17)])) rfl (by rw [hml]; rfl) (argsL := [(.ref o17)]) (rest := []) (lenOf pd2 rfl) rfl (by show 2 * 0 + _ ≤ _; exact Nat.le_of_eq rfl) (hb hby at_336) (fun _ _ => ⟨rfl, e492, (by decide : 2 + 13 ≤ _), (by decide : 16 + 220 ≤ _)⟩)
     dsimp only [Pt.U, Pt.locs, Pt.cells, Pt.slots] at Xrc507 hSrc507 hgrc507 lc507 yc507 zc507 stc507 hQc507
     subst lc507 yc507 zc507
     obtain ⟨Xc507, hSc507, hZ, hown⟩ := rebS hS0 (by rw [e492]; exact hk496) Xrc507 hSrc507 hgrc507 hZ hown
     obtain ⟨Nqc507, hAc507⟩ := hQc507
     have Nc507 := Fr.app N498 Nqc507
     obtain ⟨o1_c507, rfl, Kcc507, gn_o1_c507, zn_o1_c507, f_508, f_509, f_510, f_511, f_512, f_513, f_514, f_515, f_516⟩ := hAc507
     have ne_o17_o1_c507 : o17 ≠ o1_c507 := Nat.ne_of_lt (Nat.lt_of_lt_of_le V_493.lt zn_o1_c507)
     have ne_o206_o1_c507 : o206 ≠ o1_c507 := Nat.ne_of_lt (Nat.lt_of_lt_of_le V_497.lt zn_o1_c507)
     have sz_o1_c507 : h0.size ≤ o1_c507 := Nat.le_trans (K495).1 zn_o1_c507
     have V_517 := V_493.keep Kcc507 nin0
     have V_518 := V_497.keep Kcc507 nin0
     have O519 := O494.keep Kcc507 all0
     have K520 := Keep.trans K495 Kcc507 all0
     have p521 : ∀ t, St p e below Tc507 (mkF m 339 Ls490 [(.ref o1_c507)]) t → S0 t := fun t k => p500 t (stc507.trans k)
     let Ls522 : Array Slot := #[.val (.long j0), .second, .val (.long j1), .second, .val (.long j2), .second, .val (.int i3), .val (.int i4), .val (.long j5), .second, .val (.long w4), .second, .val (.ref o17), .val (.int (2 : Int32)), .val (.long w143), .second, .val (.ref o206), .val (.ref o1_c507), .unset, .unset, .unset]
     have p523 : ∀ t, St p e below Tc507 (mkF m 343 Ls522 [(.ref o206)]) t → S0 t := fun t k => p521 t (by
       refine XS.astore Xc507.here hx rfl (hb hby at_339) rfl rfl (l' := Ls522) rfl ?_
       refine XS.aload Xc507.here hx rfl (hb hby at_341) rfl rfl ?_
       exact k)
     have q524 : ¬ (w143 < (1 : Int64)) := fun r => ar41 g488 g145 g146 r
     have q525 : ¬ ((4294967295 : Int64) < w143) := fun r => ar42 g488 g145 g146 q524 r
     obtain ⟨_, _, ⟨Tc526, Lc526, kc526, nc526⟩, -, Xrc526, hSrc526, hgrc526, ⟨Lcc526, hQc526, lc526, yc526, zc526⟩, stc526⟩ := callSS Xc507 hx (y := M2) hown (mvT hZ (ww hw 6 rfl)) (mvT hZ (ww hw 7 rfl)) (mvT hZ (ww hw 8 rfl)) (mvT hZ (ww hw 9 rfl)) (by decide) (backOfS (W := 0) (rm1_0 l Z a0 hw [] a_cache clC w25 w42 w143 w66 w82 w98 j0 w120 o206 k206 Tc507.heap n0 O519 HE' gb_o206 V_518 q501 q502 q524 q525 q503 q504 q505 q506 g102 g103 g124 g125) hZ (ww hw 9 rfl) (ww hw 8 rfl) (by decide) (by decide)) (g := (mkF m 343 Ls522 [(.ref o206)])) rfl (by rw [hml]; rfl) (argsL := [(.ref o206)]) (rest := []) (lenOf pd2 rfl) rfl (by show 2 * 0 + _ ≤ _; exact Nat.le_of_eq rfl) (hb hby at_343) (fun _ _ => ⟨rfl, rfl, (by decide : 15 + 13 ≤ _), (by decide : 236 + 220 ≤ _)⟩)
     dsimp only [Pt.U, Pt.locs, Pt.cells, Pt.slots] at Xrc526 hSrc526 hgrc526 lc526 yc526 zc526 stc526 hQc526
     subst lc526 yc526 zc526
     obtain ⟨Xc526, hSc526, hZ, hown⟩ := rebS hSc507 ((Nat.le_refl _)) Xrc526 hSrc526 hgrc526 hZ hown
     obtain ⟨Nqc526, hAc526⟩ := hQc526
     have Nc526 := Fr.app Nc507 Nqc526
     obtain ⟨o1_c526, rfl, Kcc526, gn_o1_c526, zn_o1_c526, f_527, f_528, f_529, f_530, f_531, f_532, f_533, f_534, f_535⟩ := hAc526
     have ne_o17_o1_c526 : o17 ≠ o1_c526 := Nat.ne_of_lt (Nat.lt_of_lt_of_le V_517.lt zn_o1_c526)
     have ne_o206_o1_c526 : o206 ≠ o1_c526 := Nat.ne_of_lt (Nat.lt_of_lt_of_le V_518.lt zn_o1_c526)
     have ne_o1_c507_o1_c526 : o1_c507 ≠ o1_c526 := Nat.ne_of_lt (Nat.lt_of_lt_of_le f_508.lt zn_o1_c526)
     have sz_o1_c526 : h0.size ≤ o1_c526 := Nat.le_trans (K520).1 zn_o1_c526
     have V_536 := V_517.keep Kcc526 nin0
     have V_537 := V_518.keep Kcc526 nin0
     have E_538 := f_508.keep Kcc526
     have F_539 := f_509.keep Kcc526 nin0
     have F_540 := f_510.keep Kcc526 nin0
     have F_541 := f_511.keep Kcc526 nin0
     have F_542 := f_512.keep Kcc526 nin0
     have F_543 := f_513.keep Kcc526 nin0
     have F_544 := f_514.keep Kcc526 nin0
     have F_545 := f_515.keep Kcc526 nin0
     have F_546 := f_516.keep Kcc526 nin0
     have O547 := O519.keep Kcc526 all0
     have K548 := Keep.trans K520 Kcc526 all0
     have p549 : ∀ t, St p e below Tc526 (mkF m 346 Ls522 [(.ref o1_c526)]) t → S0 t := fun t k => p523 t (stc526.trans k)
     let Ls550 : Array Slot := #[.val (.long j0), .second, .val (.long j1), .second, .val (.long j2), .second, .val (.int i3), .val (.int i4), .val (.long j5), .second, .val (.long w4), .second, .val (.ref o17), .val (.int (2 : Int32)), .val (.long w143), .second, .val (.ref o206), .val (.ref o1_c507), .val (.ref o1_c526), .unset, .unset]
     have p551 : ∀ t, St p e below Tc526 (mkF m 361 Ls550 [(.int (2 : Int32)), (.ref o17), (.long w143)]) t → S0 t := fun t k => p549 t (by
       refine XS.astore Xc526.here hx rfl (hb hby at_346) rfl rfl (l' := Ls550) rfl ?_
       refine XS.iload Xc526.here hx rfl (hb hby at_348) rfl ?_
       refine XT.bipushV Xc526.here hx rfl (8 : Int32) (hb hby at_350) (by decide) ?_
       refine XS.icmpNo Xc526.here hx rfl (hb hby at_352) rfl (feq (by decide : ¬ ((2 : Int32) = (8 : Int32)))).1 ?_
       refine XS.lload Xc526.here hx rfl (hb hby at_355) rfl ?_
       show St p e below Tc526 (mkF m 357 Ls550 [(.long w143)]) t
       refine XS.aload Xc526.here hx rfl (hb hby at_357) rfl rfl ?_
       refine XS.iload Xc526.here hx rfl (hb hby at_359) rfl ?_
       exact k)
     obtain ⟨cl552, Ar552, -, Sz552, -, Hs552, -⟩ := id V_536
     have hin552 : ¬ ((2 : Int32) < 0 ∨ cl552.slots.size ≤ (2 : Int32).toNatClampNeg) := inb_of Sz552 ⟨by decide, by decide⟩
     have hat552 : cl552.slots[(2 : Int32).toNatClampNeg]? = some (.long w4) := Hs552.at hin552 rfl
     have p553 : ∀ t, St p e below Tc526 (mkF m 363 Ls550 [(.int (lcmpW w143 w4))]) t → S0 t := fun t k => p551 t (by
       refine Xc526.laload hx (j := (2 : Int32)) (v := (.long w4)) Ar552.1 (State.isArrayOf_alike hZ.alike Ar552.2.1) Ar552.2.2 hin552 hat552 (g := (mkF m 361 Ls550 [(.int (2 : Int32)), (.ref o17), (.long w143)])) rfl rfl (hb hby at_361) _ ?_
       refine XS.lcmp Xc526.here hx rfl (hb hby at_362) rfl ?_
       exact k)
     by_cases g554 : w143 = w4
     ·
      let Ls555 : Array Slot := #[.val (.long j0), .second, .val (.long j1), .second, .val (.long j2), .second, .val (.int i3), .val (.int i4), .val (.long j5), .second, .val (.long w4), .second, .val (.ref o17), .val (.int (2 : Int32)), .val (.long w143), .second, .val (.ref o206), .val (.ref o1_c507), .val (.ref o1_c526), .val (.int (1 : Int32)), .unset]
      have p556 : ∀ t, St p e below Tc526 (mkF m 373 Ls555 []) t → S0 t := fun t k => p553 t (by
        refine XS.ifNo Xc526.here hx rfl (hb hby at_363) rfl ((if0 _ _).trans (teq ((lw_eq _ _).mpr g554)).2) ?_
        refine XT.iconstV Xc526.here hx rfl (1 : Int32) (hb hby at_366) (by decide) ?_
        refine XS.goto Xc526.here hx rfl (pc0 := 367) (pc' := 371) rfl (hb hby at_367) (by decide) (by decide) ?_
        refine XS.istore Xc526.here hx rfl (hb hby at_371) rfl (l' := Ls555) rfl ?_
        exact k)
      have q557 : w4 = w143 := Decidable.byContradiction fun r => ar60 g488 g6 g7 g145 g146 q524 q525 g554 r
      exact ⟨(2 : Int32), (1 : Int32), w25, w42, w143, w66, w82, w98, j0, w120, ((own_nz w25) &&& (1 : Int32)), (((w42.toInt32).toInt64).toInt32), (((w66.toInt32).toInt64).toInt32), (((w82.toInt32).toInt64).toInt32), o1_c507, o1_c526, Tc526, _, Tc526.heap, _, _, Xc526, rfl, Nc526, O547, K548, hSc526, (Nat.le_refl _), hZ, hown, gn_o1_c507, sz_o1_c507, gn_o1_c526, sz_o1_c526, ne_o17_o1_c507, ne_o17_o1_c526, ne_o206_o1_c507, ne_o206_o1_c526, ne_o1_c507_o1_c526, V_536, V_537, E_538, F_539, F_540, F_541, F_542, F_543, F_544, F_545, F_546, f_527, f_528, f_529, f_530, f_531, f_532, f_533, f_534, f_535, (own_eq8_1 rfl rfl q557 rfl rfl rfl rfl rfl), (own_eq8_1 rfl rfl g554 rfl rfl rfl rfl rfl), p556⟩
     ·
      let Ls558 : Array Slot := #[.val (.long j0), .second, .val (.long j1), .second, .val (.long j2), .second, .val (.int i3), .val (.int i4), .val (.long j5), .second, .val (.long w4), .second, .val (.ref o17), .val (.int (2 : Int32)), .val (.long w143), .second, .val (.ref o206), .val (.ref o1_c507), .val (.ref o1_c526), .val (.int (0 : Int32)), .unset]
      have p559 : ∀ t, St p e below Tc526 (mkF m 373 Ls558 []) t → S0 t := fun t k => p553 t (by
        refine XS.ifYes Xc526.here hx rfl (pc0 := 363) (pc' := 370) rfl (hb hby at_363) rfl ((if0 _ _).trans (feq (mt (lw_eq _ _).mp g554)).2) (by decide) (by decide) ?_
        refine XT.iconstV Xc526.here hx rfl (0 : Int32) (hb hby at_370) (by decide) ?_
        refine XS.istore Xc526.here hx rfl (hb hby at_371) rfl (l' := Ls558) rfl ?_
        exact k)
      have q560 : ¬ (w4 = w143) := fun r => ar61 g488 g6 g7 g145 g146 q524 q525 g554 r
      exact ⟨(2 : Int32), (0 : Int32), w25, w42, w143, w66, w82, w98, j0, w120, ((own_nz w25) &&& (1 : Int32)), (((w42.toInt32).toInt64).toInt32), (((w66.toInt32).toInt64).toInt32), (((w82.toInt32).toInt64).toInt32), o1_c507, o1_c526, Tc526, _, Tc526.heap, _, _, Xc526, rfl, Nc526, O547, K548, hSc526, (Nat.le_refl _), hZ, hown, gn_o1_c507, sz_o1_c507, gn_o1_c526, sz_o1_c526, ne_o17_o1_c507, ne_o17_o1_c526, ne_o206_o1_c507, ne_o206_o1_c526, ne_o1_c507_o1_c526, V_536, V_537, E_538, F_539, F_540, F_541, F_542, F_543, F_544, F_545, F_546, f_527, f_528, f_529, f_530, f_531, f_532, f_533, f_534, f_535, (own_eq8_n2 q560), (own_eq8_n2 g554), p559⟩
    ·
     by_cases g561 : w134 = (3 : Int32)
     ·
      let Ls563 : Array Slot := #[.val (.long j0), .second, .val (.long j1), .second, .val (.long j2), .second, .val (.int i3), .val (.int i4), .val (.long j5), .second, .val (.long w4), .second, .val (.ref o17), .val (.int (3 : Int32)), .val (.long w143), .second, .val (.ref o206), .unset, .unset, .unset, .unset]
      have p562 : ∀ t, St p e below T293 (mkF m 320 Ls563 []) t → S0 t := fun t k => p302 t (by show St p e below T293 (mkF m 320 #[.val (.long j0), .second, .val (.long j1), .second, .val (.long j2), .second, .val (.int i3), .val (.int i4), .val (.long j5), .second, .val (.long w4), .second, .val (.ref o17), .val (.int w134), .val (.long w143), .second, .val (.ref o206), .unset, .unset, .unset, .unset] []) t; rw [g561]; exact k)
      have p564 : ∀ t, St p e below T293 (mkF m 333 Ls563 [(.long w143), (.int (3 : Int32)), (.ref o206)]) t → S0 t := fun t k => p562 t (by
        refine XS.iload X293.here hx rfl (hb hby at_320) rfl ?_
        refine XT.bipushV X293.here hx rfl (8 : Int32) (hb hby at_322) (by decide) ?_
        refine XS.icmpNo X293.here hx rfl (hb hby at_324) rfl (tlt (by decide : (3 : Int32) < (8 : Int32))).2.1 ?_
        refine XS.aload X293.here hx rfl (hb hby at_327) rfl rfl ?_
        refine XS.iload X293.here hx rfl (hb hby at_329) rfl ?_
        show St p e below T293 (mkF m 331 Ls563 [(.int (3 : Int32)), (.ref o206)]) t
        refine XS.lload X293.here hx rfl (hb hby at_331) rfl ?_
        exact k)
      obtain ⟨cl565, Ar565, q565, Sz565, Nn565, Hs565, Gf565⟩ := id V_298
      have hin565 : ¬ ((3 : Int32) < 0 ∨ cl565.slots.size ≤ (3 : Int32).toNatClampNeg) := inb_of Sz565 ⟨by decide, by decide⟩
      obtain ⟨T565, h565, X565, e565, W565, st565⟩ := stJ X293 hx hZ e293 Ar565 (j := (3 : Int32)) hin565 (g := (mkF m 333 Ls563 [(.long w143), (.int (3 : Int32)), (.ref o206)])) rfl rfl (hb hby at_333)
      have V_566 := V_294.other W565 ne_o17_o206
      have O567 := O295.wr W565 gb_o206
      have K568 := K296.wr W565 (Or.inr sz_o206)
      have hk569 := Nat.le_trans hk297 (Keep.of_wr W565).1
      have V_570 : Arv Z h565 o206 k206 .long (8 : Int32) [(.long w25), (.long w42), (.long w4), (.long w143), (.long w82), (.long w98), (.long j0), (.long w120)] (.long (0 : Int64)) := Arv.set Ar565 q565 Sz565 Nn565 Hs565 Gf565 rfl W565 3 rfl (Nat.le_of_ble_eq_true rfl)
      have N571 := Fr.snoc X565 N299 gb_o206
      have p572 : ∀ t, St p e below T565 (mkF m 334 Ls563 []) t → S0 t := fun t k => p564 t (st565 t k)
      have p573 : ∀ t, St p e below T565 (mkF m 336 Ls563 [(.ref o17)]) t → S0 t := fun t k => p572 t (by
        refine XS.aload X565.here hx rfl (hb hby at_334) rfl rfl ?_
        exact k)
      have q574 : ¬ (((w42.toInt32).toInt64) < (0 : Int64)) := fun r => ar37 g47 g48 g49 r
      have q575 : ¬ ((65535 : Int64) < ((w42.toInt32).toInt64)) := fun r => ar38 g47 g48 g49 q574 r
      have q576 : ¬ (((w66.toInt32).toInt64) < (0 : Int64)) := fun r => ar37 g71 g72 g73 r
      have q577 : ¬ ((65535 : Int64) < ((w66.toInt32).toInt64)) := fun r => ar38 g71 g72 g73 q576 r
      have q578 : ¬ (((w82.toInt32).toInt64) < (0 : Int64)) := fun r => ar37 g87 g88 g89 r
      have q579 : ¬ ((65535 : Int64) < ((w82.toInt32).toInt64)) := fun r => ar38 g87 g88 g89 q578 r
      obtain ⟨_, _, ⟨Tc580, Lc580, kc580, nc580⟩, -, Xrc580, hSrc580, hgrc580, ⟨Lcc580, hQc580, lc580, yc580, zc580⟩, stc580⟩ := callSS X565 hx (y := M2) hown (mvT hZ (ww hw 6 rfl)) (mvT hZ (ww hw 7 rfl)) (mvT hZ (ww hw 8 rfl)) (mvT hZ (ww hw 9 rfl)) (by decide) (backOfS (W := 0) (rm1_0 l Z a0 hw [] a_cache clC w25 w42 w4 w66 w82 w98 j0 w120 o17 k17 h565 n0 O567 HE' gb_o17 V_566 q574 q575 g6 g7 q576 q577 q578 q579 g102 g103 g124 g125) hZ (ww hw 9 rfl) (ww hw 8 rfl) (by decide) (by decide)) (g := (mkF m 336 Ls563 [(.ref o17)])) rfl (by rw [hml]; rfl) (argsL := [(.ref o17)]) (rest := []) (lenOf pd2 rfl) rfl (by show 2 * 0 + _ ≤ _; exact Nat.le_of_eq rfl) (hb hby at_336) (fun _ _ => ⟨rfl, e565, (by decide : 2 + 13 ≤ _), (by decide : 16 + 220 ≤ _)⟩)
      dsimp only [Pt.U, Pt.locs, Pt.cells, Pt.slots] at Xrc580 hSrc580 hgrc580 lc580 yc580 zc580 stc580 hQc580
      subst lc580 yc580 zc580
      obtain ⟨Xc580, hSc580, hZ, hown⟩ := rebS hS0 (by rw [e565]; exact hk569) Xrc580 hSrc580 hgrc580 hZ hown
      obtain ⟨Nqc580, hAc580⟩ := hQc580
      have Nc580 := Fr.app N571 Nqc580
      obtain ⟨o1_c580, rfl, Kcc580, gn_o1_c580, zn_o1_c580, f_581, f_582, f_583, f_584, f_585, f_586, f_587, f_588, f_589⟩ := hAc580
      have ne_o17_o1_c580 : o17 ≠ o1_c580 := Nat.ne_of_lt (Nat.lt_of_lt_of_le V_566.lt zn_o1_c580)
      have ne_o206_o1_c580 : o206 ≠ o1_c580 := Nat.ne_of_lt (Nat.lt_of_lt_of_le V_570.lt zn_o1_c580)
      have sz_o1_c580 : h0.size ≤ o1_c580 := Nat.le_trans (K568).1 zn_o1_c580
      have V_590 := V_566.keep Kcc580 nin0
      have V_591 := V_570.keep Kcc580 nin0
      have O592 := O567.keep Kcc580 all0
      have K593 := Keep.trans K568 Kcc580 all0
      have p594 : ∀ t, St p e below Tc580 (mkF m 339 Ls563 [(.ref o1_c580)]) t → S0 t := fun t k => p573 t (stc580.trans k)
      let Ls595 : Array Slot := #[.val (.long j0), .second, .val (.long j1), .second, .val (.long j2), .second, .val (.int i3), .val (.int i4), .val (.long j5), .second, .val (.long w4), .second, .val (.ref o17), .val (.int (3 : Int32)), .val (.long w143), .second, .val (.ref o206), .val (.ref o1_c580), .unset, .unset, .unset]
      have p596 : ∀ t, St p e below Tc580 (mkF m 343 Ls595 [(.ref o206)]) t → S0 t := fun t k => p594 t (by
        refine XS.astore Xc580.here hx rfl (hb hby at_339) rfl rfl (l' := Ls595) rfl ?_
        refine XS.aload Xc580.here hx rfl (hb hby at_341) rfl rfl ?_
        exact k)
      have q597 : ¬ (((w143.toInt32).toInt64) < (0 : Int64)) := fun r => ar43 g561 g145 g146 r
      have q598 : ¬ ((65535 : Int64) < ((w143.toInt32).toInt64)) := fun r => ar44 g561 g145 g146 q597 r
      obtain ⟨_, _, ⟨Tc599, Lc599, kc599, nc599⟩, -, Xrc599, hSrc599, hgrc599, ⟨Lcc599, hQc599, lc599, yc599, zc599⟩, stc599⟩ := callSS Xc580 hx (y := M2) hown (mvT hZ (ww hw 6 rfl)) (mvT hZ (ww hw 7 rfl)) (mvT hZ (ww hw 8 rfl)) (mvT hZ (ww hw 9 rfl)) (by decide) (backOfS (W := 0) (rm1_0 l Z a0 hw [] a_cache clC w25 w42 w4 w143 w82 w98 j0 w120 o206 k206 Tc580.heap n0 O592 HE' gb_o206 V_591 q574 q575 g6 g7 q597 q598 q578 q579 g102 g103 g124 g125) hZ (ww hw 9 rfl) (ww hw 8 rfl) (by decide) (by decide)) (g := (mkF m 343 Ls595 [(.ref o206)])) rfl (by rw [hml]; rfl) (argsL := [(.ref o206)]) (rest := []) (lenOf pd2 rfl) rfl (by show 2 * 0 + _ ≤ _; exact Nat.le_of_eq rfl) (hb hby at_343) (fun _ _ => ⟨rfl, rfl, (by decide : 15 + 13 ≤ _), (by decide : 236 + 220 ≤ _)⟩)
      dsimp only [Pt.U, Pt.locs, Pt.cells, Pt.slots] at Xrc599 hSrc599 hgrc599 lc599 yc599 zc599 stc599 hQc599
      subst lc599 yc599 zc599
      obtain ⟨Xc599, hSc599, hZ, hown⟩ := rebS hSc580 ((Nat.le_refl _)) Xrc599 hSrc599 hgrc599 hZ hown
      obtain ⟨Nqc599, hAc599⟩ := hQc599
      have Nc599 := Fr.app Nc580 Nqc599
      obtain ⟨o1_c599, rfl, Kcc599, gn_o1_c599, zn_o1_c599, f_600, f_601, f_602, f_603, f_604, f_605, f_606, f_607, f_608⟩ := hAc599
      have ne_o17_o1_c599 : o17 ≠ o1_c599 := Nat.ne_of_lt (Nat.lt_of_lt_of_le V_590.lt zn_o1_c599)
      have ne_o206_o1_c599 : o206 ≠ o1_c599 := Nat.ne_of_lt (Nat.lt_of_lt_of_le V_591.lt zn_o1_c599)
      have ne_o1_c580_o1_c599 : o1_c580 ≠ o1_c599 := Nat.ne_of_lt (Nat.lt_of_lt_of_le f_581.lt zn_o1_c599)
      have sz_o1_c599 : h0.size ≤ o1_c599 := Nat.le_trans (K593).1 zn_o1_c599
      have V_609 := V_590.keep Kcc599 nin0
      have V_610 := V_591.keep Kcc599 nin0
      have E_611 := f_581.keep Kcc599
      have F_612 := f_582.keep Kcc599 nin0
      have F_613 := f_583.keep Kcc599 nin0
      have F_614 := f_584.keep Kcc599 nin0
      have F_615 := f_585.keep Kcc599 nin0
      have F_616 := f_586.keep Kcc599 nin0
      have F_617 := f_587.keep Kcc599 nin0
      have F_618 := f_588.keep Kcc599 nin0
      have F_619 := f_589.keep Kcc599 nin0
      have O620 := O592.keep Kcc599 all0
      have K621 := Keep.trans K593 Kcc599 all0
      have p622 : ∀ t, St p e below Tc599 (mkF m 346 Ls595 [(.ref o1_c599)]) t → S0 t := fun t k => p596 t (stc599.trans k)
      let Ls623 : Array Slot := #[.val (.long j0), .second, .val (.long j1), .second, .val (.long j2), .second, .val (.int i3), .val (.int i4), .val (.long j5), .second, .val (.long w4), .second, .val (.ref o17), .val (.int (3 : Int32)), .val (.long w143), .second, .val (.ref o206), .val (.ref o1_c580), .val (.ref o1_c599), .unset, .unset]
      have p624 : ∀ t, St p e below Tc599 (mkF m 361 Ls623 [(.int (3 : Int32)), (.ref o17), (.long w143)]) t → S0 t := fun t k => p622 t (by
        refine XS.astore Xc599.here hx rfl (hb hby at_346) rfl rfl (l' := Ls623) rfl ?_
        refine XS.iload Xc599.here hx rfl (hb hby at_348) rfl ?_
        refine XT.bipushV Xc599.here hx rfl (8 : Int32) (hb hby at_350) (by decide) ?_
        refine XS.icmpNo Xc599.here hx rfl (hb hby at_352) rfl (feq (by decide : ¬ ((3 : Int32) = (8 : Int32)))).1 ?_
        refine XS.lload Xc599.here hx rfl (hb hby at_355) rfl ?_
        show St p e below Tc599 (mkF m 357 Ls623 [(.long w143)]) t
        refine XS.aload Xc599.here hx rfl (hb hby at_357) rfl rfl ?_
        refine XS.iload Xc599.here hx rfl (hb hby at_359) rfl ?_
        exact k)
      obtain ⟨cl625, Ar625, -, Sz625, -, Hs625, -⟩ := id V_609
      have hin625 : ¬ ((3 : Int32) < 0 ∨ cl625.slots.size ≤ (3 : Int32).toNatClampNeg) := inb_of Sz625 ⟨by decide, by decide⟩
      have hat625 : cl625.slots[(3 : Int32).toNatClampNeg]? = some (.long w66) := Hs625.at hin625 rfl
      have p626 : ∀ t, St p e below Tc599 (mkF m 363 Ls623 [(.int (lcmpW w143 w66))]) t → S0 t := fun t k => p624 t (by
        refine Xc599.laload hx (j := (3 : Int32)) (v := (.long w66)) Ar625.1 (State.isArrayOf_alike hZ.alike Ar625.2.1) Ar625.2.2 hin625 hat625 (g := (mkF m 361 Ls623 [(.int (3 : Int32)), (.ref o17), (.long w143)])) rfl rfl (hb hby at_361) _ ?_
        refine XS.lcmp Xc599.here hx rfl (hb hby at_362) rfl ?_
        exact k)
      by_cases g627 : w143 = w66
      ·
       let Ls628 : Array Slot := #[.val (.long j0), .second, .val (.long j1), .second, .val (.long j2), .second, .val (.int i3), .val (.int i4), .val (.long j5), .second, .val (.long w4), .second, .val (.ref o17), .val (.int (3 : Int32)), .val (.long w143), .second, .val (.ref o206), .val (.ref o1_c580), .val (.ref o1_c599), .val (.int (1 : Int32)), .unset]
       have p629 : ∀ t, St p e below Tc599 (mkF m 373 Ls628 []) t → S0 t := fun t k => p626 t (by
         refine XS.ifNo Xc599.here hx rfl (hb hby at_363) rfl ((if0 _ _).trans (teq ((lw_eq _ _).mpr g627)).2) ?_
         refine XT.iconstV Xc599.here hx rfl (1 : Int32) (hb hby at_366) (by decide) ?_
         refine XS.goto Xc599.here hx rfl (pc0 := 367) (pc' := 371) rfl (hb hby at_367) (by decide) (by decide) ?_
         refine XS.istore Xc599.here hx rfl (hb hby at_371) rfl (l' := Ls628) rfl ?_
         exact k)
       have q630 : (((w66.toInt32).toInt64).toInt32) = (((w143.toInt32).toInt64).toInt32) := Decidable.byContradiction fun r => ar62 g561 g71 g72 g73 g145 g146 q576 q577 q597 q598 g627 r
       have q631 : (((w143.toInt32).toInt64).toInt32) = (((w66.toInt32).toInt64).toInt32) := Decidable.byContradiction fun r => ar63 g561 g71 g72 g73 g145 g146 q576 q577 q597 q598 g627 r
       exact ⟨(3 : Int32), (1 : Int32), w25, w42, w4, w143, w82, w98, j0, w120, ((own_nz w25) &&& (1 : Int32)), (((w42.toInt32).toInt64).toInt32), (((w143.toInt32).toInt64).toInt32), (((w82.toInt32).toInt64).toInt32), o1_c580, o1_c599, Tc599, _, Tc599.heap, _, _, Xc599, rfl, Nc599, O620, K621, hSc599, (Nat.le_refl _), hZ, hown, gn_o1_c580, sz_o1_c580, gn_o1_c599, sz_o1_c599, ne_o17_o1_c580, ne_o17_o1_c599, ne_o206_o1_c580, ne_o206_o1_c599, ne_o1_c580_o1_c599, V_609, V_610, E_611, F_612, F_613, F_614, F_615, F_616, F_617, F_618, F_619, f_600, f_601, f_602, f_603, f_604, f_605, f_606, f_607, f_608, (own_eq8_1 rfl rfl rfl q630 rfl rfl rfl rfl), (own_eq8_1 rfl rfl rfl q631 rfl rfl rfl rfl), p629⟩
      ·
       let Ls632 : Array Slot := #[.val (.long j0), .second, .val (.long j1), .second, .val (.long j2), .second, .val (.int i3), .val (.int i4), .val (.long j5), .second, .val (.long w4), .second, .val (.ref o17), .val (.int (3 : Int32)), .val (.long w143), .second, .val (.ref o206), .val (.ref o1_c580), .val (.ref o1_c599), .val (.int (0 : Int32)), .unset]
       have p633 : ∀ t, St p e below Tc599 (mkF m 373 Ls632 []) t → S0 t := fun t k => p626 t (by
         refine XS.ifYes Xc599.here hx rfl (pc0 := 363) (pc' := 370) rfl (hb hby at_363) rfl ((if0 _ _).trans (feq (mt (lw_eq _ _).mp g627)).2) (by decide) (by decide) ?_
         refine XT.iconstV Xc599.here hx rfl (0 : Int32) (hb hby at_370) (by decide) ?_
         refine XS.istore Xc599.here hx rfl (hb hby at_371) rfl (l' := Ls632) rfl ?_
         exact k)
       have q634 : ¬ ((((w66.toInt32).toInt64).toInt32) = (((w143.toInt32).toInt64).toInt32)) := fun r => ar64 g561 g71 g72 g73 g145 g146 q576 q577 q597 q598 g627 r
       have q635 : ¬ ((((w143.toInt32).toInt64).toInt32) = (((w66.toInt32).toInt64).toInt32)) := fun r => ar65 g561 g71 g72 g73 g145 g146 q576 q577 q597 q598 g627 r
       exact ⟨(3 : Int32), (0 : Int32), w25, w42, w4, w143, w82, w98, j0, w120, ((own_nz w25) &&& (1 : Int32)), (((w42.toInt32).toInt64).toInt32), (((w143.toInt32).toInt64).toInt32), (((w82.toInt32).toInt64).toInt32), o1_c580, o1_c599, Tc599, _, Tc599.heap, _, _, Xc599, rfl, Nc599, O620, K621, hSc599, (Nat.le_refl _), hZ, hown, gn_o1_c580, sz_o1_c580, gn_o1_c599, sz_o1_c599, ne_o17_o1_c580, ne_o17_o1_c599, ne_o206_o1_c580, ne_o206_o1_c599, ne_o1_c580_o1_c599, V_609, V_610, E_611, F_612, F_613, F_614, F_615, F_616, F_617, F_618, F_619, f_600, f_601, f_602, f_603, f_604, f_605, f_606, f_607, f_608, (own_eq8_n3 q634), (own_eq8_n3 q635), p633⟩
     ·
      by_cases g636 : w134 = (4 : Int32)
      ·
       let Ls638 : Array Slot := #[.val (.long j0), .second, .val (.long j1), .second, .val (.long j2), .second, .val (.int i3), .val (.int i4), .val (.long j5), .second, .val (.long w4), .second, .val (.ref o17), .val (.int (4 : Int32)), .val (.long w143), .second, .val (.ref o206), .unset, .unset, .unset, .unset]
       have p637 : ∀ t, St p e below T293 (mkF m 320 Ls638 []) t → S0 t := fun t k => p302 t (by show St p e below T293 (mkF m 320 #[.val (.long j0), .second, .val (.long j1), .second, .val (.long j2), .second, .val (.int i3), .val (.int i4), .val (.long j5), .second, .val (.long w4), .second, .val (.ref o17), .val (.int w134), .val (.long w143), .second, .val (.ref o206), .unset, .unset, .unset, .unset] []) t; rw [g636]; exact k)
       have p639 : ∀ t, St p e below T293 (mkF m 333 Ls638 [(.long w143), (.int (4 : Int32)), (.ref o206)]) t → S0 t := fun t k => p637 t (by
         refine XS.iload X293.here hx rfl (hb hby at_320) rfl ?_
         refine XT.bipushV X293.here hx rfl (8 : Int32) (hb hby at_322) (by decide) ?_
         refine XS.icmpNo X293.here hx rfl (hb hby at_324) rfl (tlt (by decide : (4 : Int32) < (8 : Int32))).2.1 ?_
         refine XS.aload X293.here hx rfl (hb hby at_327) rfl rfl ?_
         refine XS.iload X293.here hx rfl (hb hby at_329) rfl ?_
         show St p e below T293 (mkF m 331 Ls638 [(.int (4 : Int32)), (.ref o206)]) t
         refine XS.lload X293.here hx rfl (hb hby at_331) rfl ?_
         exact k)
       obtain ⟨cl640, Ar640, q640, Sz640, Nn640, Hs640, Gf640⟩ := id V_298
       have hin640 : ¬ ((4 : Int32) < 0 ∨ cl640.slots.size ≤ (4 : Int32).toNatClampNeg) := inb_of Sz640 ⟨by decide, by decide⟩
       obtain ⟨T640, h640, X640, e640, W640, st640⟩ := stJ X293 hx hZ e293 Ar640 (j := (4 : Int32)) hin640 (g := (mkF m 333 Ls638 [(.long w143), (.int (4 : Int32)), (.ref o206)])) rfl rfl (hb hby at_333)
       have V_641 := V_294.other W640 ne_o17_o206
       have O642 := O295.wr W640 gb_o206
       have K643 := K296.wr W640 (Or.inr sz_o206)
       have hk644 := Nat.le_trans hk297 (Keep.of_wr W640).1
       have V_645 : Arv Z h640 o206 k206 .long (8 : Int32) [(.long w25), (.long w42), (.long w4), (.long w66), (.long w143), (.long w98), (.long j0), (.long w120)] (.long (0 : Int64)) := Arv.set Ar640 q640 Sz640 Nn640 Hs640 Gf640 rfl W640 4 rfl (Nat.le_of_ble_eq_true rfl)
       have N646 := Fr.snoc X640 N299 gb_o206
       have p647 : ∀ t, St p e below T640 (mkF m 334 Ls638 []) t → S0 t := fun t k => p639 t (st640 t k)
       have p648 : ∀ t, St p e below T640 (mkF m 336 Ls638 [(.ref o17)]) t → S0 t := fun t k => p647 t (by
         refine XS.aload X640.here hx rfl (hb hby at_334) rfl rfl ?_
         exact k)
       have q649 : ¬ (((w42.toInt32).toInt64) < (0 : Int64)) := fun r => ar37 g47 g48 g49 r
       have q650 : ¬ ((65535 : Int64) < ((w42.toInt32).toInt64)) := fun r => ar38 g47 g48 g49 q649 r
       have q651 : ¬ (((w66.toInt32).toInt64) < (0 : Int64)) := fun r => ar37 g71 g72 g73 r
       have q652 : ¬ ((65535 : Int64) < ((w66.toInt32).toInt64)) := fun r => ar38 g71 g72 g73 q651 r
       have q653 : ¬ (((w82.toInt32).toInt64) < (0 : Int64)) := fun r => ar37 g87 g88 g89 r
       have q654 : ¬ ((65535 : Int64) < ((w82.toInt32).toInt64)) := fun r => ar38 g87 g88 g89 q653 r
       obtain ⟨_, _, ⟨Tc655, Lc655, kc655, nc655⟩, -, Xrc655, hSrc655, hgrc655, ⟨Lcc655, hQc655, lc655, yc655, zc655⟩, stc655⟩ := callSS X640 hx (y := M2) hown (mvT hZ (ww hw 6 rfl)) (mvT hZ (ww hw 7 rfl)) (mvT hZ (ww hw 8 rfl)) (mvT hZ (ww hw 9 rfl)) (by decide) (backOfS (W := 0) (rm1_0 l Z a0 hw [] a_cache clC w25 w42 w4 w66 w82 w98 j0 w120 o17 k17 h640 n0 O642 HE' gb_o17 V_641 q649 q650 g6 g7 q651 q652 q653 q654 g102 g103 g124 g125) hZ (ww hw 9 rfl) (ww hw 8 rfl) (by decide) (by decide)) (g := (mkF m 336 Ls638 [(.ref o17)])) rfl (by rw [hml]; rfl) (argsL := [(.ref o17)]) (rest := []) (lenOf pd2 rfl) rfl (by show 2 * 0 + _ ≤ _; exact Nat.le_of_eq rfl) (hb hby at_336) (fun _ _ => ⟨rfl, e640, (by decide : 2 + 13 ≤ _), (by decide : 16 + 220 ≤ _)⟩)
       dsimp only [Pt.U, Pt.locs, Pt.cells, Pt.slots] at Xrc655 hSrc655 hgrc655 lc655 yc655 zc655 stc655 hQc655
       subst lc655 yc655 zc655
       obtain ⟨Xc655, hSc655, hZ, hown⟩ := rebS hS0 (by rw [e640]; exact hk644) Xrc655 hSrc655 hgrc655 hZ hown
       obtain ⟨Nqc655, hAc655⟩ := hQc655
       have Nc655 := Fr.app N646 Nqc655
       obtain ⟨o1_c655, rfl, Kcc655, gn_o1_c655, zn_o1_c655, f_656, f_657, f_658, f_659, f_660, f_661, f_662, f_663, f_664⟩ := hAc655
       have ne_o17_o1_c655 : o17 ≠ o1_c655 := Nat.ne_of_lt (Nat.lt_of_lt_of_le V_641.lt zn_o1_c655)
       have ne_o206_o1_c655 : o206 ≠ o1_c655 := Nat.ne_of_lt (Nat.lt_of_lt_of_le V_645.lt zn_o1_c655)
       have sz_o1_c655 : h0.size ≤ o1_c655 := Nat.le_trans (K643).1 zn_o1_c655
       have V_665 := V_641.keep Kcc655 nin0
       have V_666 := V_645.keep Kcc655 nin0
       have O667 := O642.keep Kcc655 all0
       have K668 := Keep.trans K643 Kcc655 all0
       have p669 : ∀ t, St p e below Tc655 (mkF m 339 Ls638 [(.ref o1_c655)]) t → S0 t := fun t k => p648 t (stc655.trans k)
       let Ls670 : Array Slot := #[.val (.long j0), .second, .val (.long j1), .second, .val (.long j2), .second, .val (.int i3), .val (.int i4), .val (.long j5), .second, .val (.long w4), .second, .val (.ref o17), .val (.int (4 : Int32)), .val (.long w143), .second, .val (.ref o206), .val (.ref o1_c655), .unset, .unset, .unset]
       have p671 : ∀ t, St p e below Tc655 (mkF m 343 Ls670 [(.ref o206)]) t → S0 t := fun t k => p669 t (by
         refine XS.astore Xc655.here hx rfl (hb hby at_339) rfl rfl (l' := Ls670) rfl ?_
         refine XS.aload Xc655.here hx rfl (hb hby at_341) rfl rfl ?_
         exact k)
       have q672 : ¬ (((w143.toInt32).toInt64) < (0 : Int64)) := fun r => ar45 g636 g145 g146 r
       have q673 : ¬ ((65535 : Int64) < ((w143.toInt32).toInt64)) := fun r => ar46 g636 g145 g146 q672 r
       obtain ⟨_, _, ⟨Tc674, Lc674, kc674, nc674⟩, -, Xrc674, hSrc674, hgrc674, ⟨Lcc674, hQc674, lc674, yc674, zc674⟩, stc674⟩ := callSS Xc655 hx (y := M2) hown (mvT hZ (ww hw 6 rfl)) (mvT hZ (ww hw 7 rfl)) (mvT hZ (ww hw 8 rfl)) (mvT hZ (ww hw 9 rfl)) (by decide) (backOfS (W := 0) (rm1_0 l Z a0 hw [] a_cache clC w25 w42 w4 w66 w143 w98 j0 w120 o206 k206 Tc655.heap n0 O667 HE' gb_o206 V_666 q649 q650 g6 g7 q651 q652 q672 q673 g102 g103 g124 g125) hZ (ww hw 9 rfl) (ww hw 8 rfl) (by decide) (by decide)) (g := (mkF m 343 Ls670 [(.ref o206)])) rfl (by rw [hml]; rfl) (argsL := [(.ref o206)]) (rest := []) (lenOf pd2 rfl) rfl (by show 2 * 0 + _ ≤ _; exact Nat.le_of_eq rfl) (hb hby at_343) (fun _ _ => ⟨rfl, rfl, (by decide : 15 + 13 ≤ _), (by decide : 236 + 220 ≤ _)⟩)
       dsimp only [Pt.U, Pt.locs, Pt.cells, Pt.slots] at Xrc674 hSrc674 hgrc674 lc674 yc674 zc674 stc674 hQc674
       subst lc674 yc674 zc674
       obtain ⟨Xc674, hSc674, hZ, hown⟩ := rebS hSc655 ((Nat.le_refl _)) Xrc674 hSrc674 hgrc674 hZ hown
       obtain ⟨Nqc674, hAc674⟩ := hQc674
       have Nc674 := Fr.app Nc655 Nqc674
       obtain ⟨o1_c674, rfl, Kcc674, gn_o1_c674, zn_o1_c674, f_675, f_676, f_677, f_678, f_679, f_680, f_681, f_682, f_683⟩ := hAc674
       have ne_o17_o1_c674 : o17 ≠ o1_c674 := Nat.ne_of_lt (Nat.lt_of_lt_of_le V_665.lt zn_o1_c674)
       have ne_o206_o1_c674 : o206 ≠ o1_c674 := Nat.ne_of_lt (Nat.lt_of_lt_of_le V_666.lt zn_o1_c674)
       have ne_o1_c655_o1_c674 : o1_c655 ≠ o1_c674 := Nat.ne_of_lt (Nat.lt_of_lt_of_le f_656.lt zn_o1_c674)
       have sz_o1_c674 : h0.size ≤ o1_c674 := Nat.le_trans (K668).1 zn_o1_c674
       have V_684 := V_665.keep Kcc674 nin0
       have V_685 := V_666.keep Kcc674 nin0
       have E_686 := f_656.keep Kcc674
       have F_687 := f_657.keep Kcc674 nin0
       have F_688 := f_658.keep Kcc674 nin0
       have F_689 := f_659.keep Kcc674 nin0
       have F_690 := f_660.keep Kcc674 nin0
       have F_691 := f_661.keep Kcc674 nin0
       have F_692 := f_662.keep Kcc674 nin0
       have F_693 := f_663.keep Kcc674 nin0
       have F_694 := f_664.keep Kcc674 nin0
       have O695 := O667.keep Kcc674 all0
       have K696 := Keep.trans K668 Kcc674 all0
       have p697 : ∀ t, St p e below Tc674 (mkF m 346 Ls670 [(.ref o1_c674)]) t → S0 t := fun t k => p671 t (stc674.trans k)
       let Ls698 : Array Slot := #[.val (.long j0), .second, .val (.long j1), .second, .val (.long j2), .second, .val (.int i3), .val (.int i4), .val (.long j5), .second, .val (.long w4), .second, .val (.ref o17), .val (.int (4 : Int32)), .val (.long w143), .second, .val (.ref o206), .val (.ref o1_c655), .val (.ref o1_c674), .unset, .unset]
       have p699 : ∀ t, St p e below Tc674 (mkF m 361 Ls698 [(.int (4 : Int32)), (.ref o17), (.long w143)]) t → S0 t := fun t k => p697 t (by
         refine XS.astore Xc674.here hx rfl (hb hby at_346) rfl rfl (l' := Ls698) rfl ?_
         refine XS.iload Xc674.here hx rfl (hb hby at_348) rfl ?_
         refine XT.bipushV Xc674.here hx rfl (8 : Int32) (hb hby at_350) (by decide) ?_
         refine XS.icmpNo Xc674.here hx rfl (hb hby at_352) rfl (feq (by decide : ¬ ((4 : Int32) = (8 : Int32)))).1 ?_
         refine XS.lload Xc674.here hx rfl (hb hby at_355) rfl ?_
         show St p e below Tc674 (mkF m 357 Ls698 [(.long w143)]) t
         refine XS.aload Xc674.here hx rfl (hb hby at_357) rfl rfl ?_
         refine XS.iload Xc674.here hx rfl (hb hby at_359) rfl ?_
         exact k)
       obtain ⟨cl700, Ar700, -, Sz700, -, Hs700, -⟩ := id V_684
       have hin700 : ¬ ((4 : Int32) < 0 ∨ cl700.slots.size ≤ (4 : Int32).toNatClampNeg) := inb_of Sz700 ⟨by decide, by decide⟩
       have hat700 : cl700.slots[(4 : Int32).toNatClampNeg]? = some (.long w82) := Hs700.at hin700 rfl
       have p701 : ∀ t, St p e below Tc674 (mkF m 363 Ls698 [(.int (lcmpW w143 w82))]) t → S0 t := fun t k => p699 t (by
         refine Xc674.laload hx (j := (4 : Int32)) (v := (.long w82)) Ar700.1 (State.isArrayOf_alike hZ.alike Ar700.2.1) Ar700.2.2 hin700 hat700 (g := (mkF m 361 Ls698 [(.int (4 : Int32)), (.ref o17), (.long w143)])) rfl rfl (hb hby at_361) _ ?_
         refine XS.lcmp Xc674.here hx rfl (hb hby at_362) rfl ?_
         exact k)
       by_cases g702 : w143 = w82
       ·
        let Ls703 : Array Slot := #[.val (.long j0), .second, .val (.long j1), .second, .val (.long j2), .second, .val (.int i3), .val (.int i4), .val (.long j5), .second, .val (.long w4), .second, .val (.ref o17), .val (.int (4 : Int32)), .val (.long w143), .second, .val (.ref o206), .val (.ref o1_c655), .val (.ref o1_c674), .val (.int (1 : Int32)), .unset]
        have p704 : ∀ t, St p e below Tc674 (mkF m 373 Ls703 []) t → S0 t := fun t k => p701 t (by
          refine XS.ifNo Xc674.here hx rfl (hb hby at_363) rfl ((if0 _ _).trans (teq ((lw_eq _ _).mpr g702)).2) ?_
          refine XT.iconstV Xc674.here hx rfl (1 : Int32) (hb hby at_366) (by decide) ?_
          refine XS.goto Xc674.here hx rfl (pc0 := 367) (pc' := 371) rfl (hb hby at_367) (by decide) (by decide) ?_
          refine XS.istore Xc674.here hx rfl (hb hby at_371) rfl (l' := Ls703) rfl ?_
          exact k)
        have q705 : (((w82.toInt32).toInt64).toInt32) = (((w143.toInt32).toInt64).toInt32) := Decidable.byContradiction fun r => ar66 g636 g87 g88 g89 g145 g146 q653 q654 q672 q673 g702 r
        have q706 : (((w143.toInt32).toInt64).toInt32) = (((w82.toInt32).toInt64).toInt32) := Decidable.byContradiction fun r => ar67 g636 g87 g88 g89 g145 g146 q653 q654 q672 q673 g702 r
        exact ⟨(4 : Int32), (1 : Int32), w25, w42, w4, w66, w143, w98, j0, w120, ((own_nz w25) &&& (1 : Int32)), (((w42.toInt32).toInt64).toInt32), (((w66.toInt32).toInt64).toInt32), (((w143.toInt32).toInt64).toInt32), o1_c655, o1_c674, Tc674, _, Tc674.heap, _, _, Xc674, rfl, Nc674, O695, K696, hSc674, (Nat.le_refl _), hZ, hown, gn_o1_c655, sz_o1_c655, gn_o1_c674, sz_o1_c674, ne_o17_o1_c655, ne_o17_o1_c674, ne_o206_o1_c655, ne_o206_o1_c674, ne_o1_c655_o1_c674, V_684, V_685, E_686, F_687, F_688, F_689, F_690, F_691, F_692, F_693, F_694, f_675, f_676, f_677, f_678, f_679, f_680, f_681, f_682, f_683, (own_eq8_1 rfl rfl rfl rfl q705 rfl rfl rfl), (own_eq8_1 rfl rfl rfl rfl q706 rfl rfl rfl), p704⟩
       ·
        let Ls707 : Array Slot := #[.val (.long j0), .second, .val (.long j1), .second, .val (.long j2), .second, .val (.int i3), .val (.int i4), .val (.long j5), .second, .val (.long w4), .second, .val (.ref o17), .val (.int (4 : Int32)), .val (.long w143), .second, .val (.ref o206), .val (.ref o1_c655), .val (.ref o1_c674), .val (.int (0 : Int32)), .unset]
        have p708 : ∀ t, St p e below Tc674 (mkF m 373 Ls707 []) t → S0 t := fun t k => p701 t (by
          refine XS.ifYes Xc674.here hx rfl (pc0 := 363) (pc' := 370) rfl (hb hby at_363) rfl ((if0 _ _).trans (feq (mt (lw_eq _ _).mp g702)).2) (by decide) (by decide) ?_
          refine XT.iconstV Xc674.here hx rfl (0 : Int32) (hb hby at_370) (by decide) ?_
          refine XS.istore Xc674.here hx rfl (hb hby at_371) rfl (l' := Ls707) rfl ?_
          exact k)
        have q709 : ¬ ((((w82.toInt32).toInt64).toInt32) = (((w143.toInt32).toInt64).toInt32)) := fun r => ar68 g636 g87 g88 g89 g145 g146 q653 q654 q672 q673 g702 r
        have q710 : ¬ ((((w143.toInt32).toInt64).toInt32) = (((w82.toInt32).toInt64).toInt32)) := fun r => ar69 g636 g87 g88 g89 g145 g146 q653 q654 q672 q673 g702 r
        exact ⟨(4 : Int32), (0 : Int32), w25, w42, w4, w66, w143, w98, j0, w120, ((own_nz w25) &&& (1 : Int32)), (((w42.toInt32).toInt64).toInt32), (((w66.toInt32).toInt64).toInt32), (((w143.toInt32).toInt64).toInt32), o1_c655, o1_c674, Tc674, _, Tc674.heap, _, _, Xc674, rfl, Nc674, O695, K696, hSc674, (Nat.le_refl _), hZ, hown, gn_o1_c655, sz_o1_c655, gn_o1_c674, sz_o1_c674, ne_o17_o1_c655, ne_o17_o1_c674, ne_o206_o1_c655, ne_o206_o1_c674, ne_o1_c655_o1_c674, V_684, V_685, E_686, F_687, F_688, F_689, F_690, F_691, F_692, F_693, F_694, f_675, f_676, f_677, f_678, f_679, f_680, f_681, f_682, f_683, (own_eq8_n4 q709), (own_eq8_n4 q710), p708⟩
      ·
       by_cases g711 : w134 = (5 : Int32)
       ·
        let Ls713 : Array Slot := #[.val (.long j0), .second, .val (.long j1), .second, .val (.long j2), .second, .val (.int i3), .val (.int i4), .val (.long j5), .second, .val (.long w4), .second, .val (.ref o17), .val (.int (5 : Int32)), .val (.long w143), .second, .val (.ref o206), .unset, .unset, .unset, .unset]
        have p712 : ∀ t, St p e below T293 (mkF m 320 Ls713 []) t → S0 t := fun t k => p302 t (by show St p e below T293 (mkF m 320 #[.val (.long j0), .second, .val (.long j1), .second, .val (.long j2), .second, .val (.int i3), .val (.int i4), .val (.long j5), .second, .val (.long w4), .second, .val (.ref o17), .val (.int w134), .val (.long w143), .second, .val (.ref o206), .unset, .unset, .unset, .unset] []) t; rw [g711]; exact k)
        have p714 : ∀ t, St p e below T293 (mkF m 333 Ls713 [(.long w143), (.int (5 : Int32)), (.ref o206)]) t → S0 t := fun t k => p712 t (by
          refine XS.iload X293.here hx rfl (hb hby at_320) rfl ?_
          refine XT.bipushV X293.here hx rfl (8 : Int32) (hb hby at_322) (by decide) ?_
          refine XS.icmpNo X293.here hx rfl (hb hby at_324) rfl (tlt (by decide : (5 : Int32) < (8 : Int32))).2.1 ?_
          refine XS.aload X293.here hx rfl (hb hby at_327) rfl rfl ?_
          refine XS.iload X293.here hx rfl (hb hby at_329) rfl ?_
          show St p e below T293 (mkF m 331 Ls713 [(.int (5 : Int32)), (.ref o206)]) t
          refine XS.lload X293.here hx rfl (hb hby at_331) rfl ?_
          exact k)
        obtain ⟨cl715, Ar715, q715, Sz715, Nn715, Hs715, Gf715⟩ := id V_298
        have hin715 : ¬ ((5 : Int32) < 0 ∨ cl715.slots.size ≤ (5 : Int32).toNatClampNeg) := inb_of Sz715 ⟨by decide, by decide⟩
        obtain ⟨T715, h715, X715, e715, W715, st715⟩ := stJ X293 hx hZ e293 Ar715 (j := (5 : Int32)) hin715 (g := (mkF m 333 Ls713 [(.long w143), (.int (5 : Int32)), (.ref o206)])) rfl rfl (hb hby at_333)
        have V_716 := V_294.other W715 ne_o17_o206
        have O717 := O295.wr W715 gb_o206
        have K718 := K296.wr W715 (Or.inr sz_o206)
        have hk719 := Nat.le_trans hk297 (Keep.of_wr W715).1
        have V_720 : Arv Z h715 o206 k206 .long (8 : Int32) [(.long w25), (.long w42), (.long w4), (.long w66), (.long w82), (.long w143), (.long j0), (.long w120)] (.long (0 : Int64)) := Arv.set Ar715 q715 Sz715 Nn715 Hs715 Gf715 rfl W715 5 rfl (Nat.le_of_ble_eq_true rfl)
        have N721 := Fr.snoc X715 N299 gb_o206
        have p722 : ∀ t, St p e below T715 (mkF m 334 Ls713 []) t → S0 t := fun t k => p714 t (st715 t k)
        have p723 : ∀ t, St p e below T715 (mkF m 336 Ls713 [(.ref o17)]) t → S0 t := fun t k => p722 t (by
          refine XS.aload X715.here hx rfl (hb hby at_334) rfl rfl ?_
          exact k)
        have q724 : ¬ (((w42.toInt32).toInt64) < (0 : Int64)) := fun r => ar37 g47 g48 g49 r
        have q725 : ¬ ((65535 : Int64) < ((w42.toInt32).toInt64)) := fun r => ar38 g47 g48 g49 q724 r
        have q726 : ¬ (((w66.toInt32).toInt64) < (0 : Int64)) := fun r => ar37 g71 g72 g73 r
        have q727 : ¬ ((65535 : Int64) < ((w66.toInt32).toInt64)) := fun r => ar38 g71 g72 g73 q726 r
        have q728 : ¬ (((w82.toInt32).toInt64) < (0 : Int64)) := fun r => ar37 g87 g88 g89 r
        have q729 : ¬ ((65535 : Int64) < ((w82.toInt32).toInt64)) := fun r => ar38 g87 g88 g89 q728 r
        obtain ⟨_, _, ⟨Tc730, Lc730, kc730, nc730⟩, -, Xrc730, hSrc730, hgrc730, ⟨Lcc730, hQc730, lc730, yc730, zc730⟩, stc730⟩ := callSS X715 hx (y := M2) hown (mvT hZ (ww hw 6 rfl)) (mvT hZ (ww hw 7 rfl)) (mvT hZ (ww hw 8 rfl)) (mvT hZ (ww hw 9 rfl)) (by decide) (backOfS (W := 0) (rm1_0 l Z a0 hw [] a_cache clC w25 w42 w4 w66 w82 w98 j0 w120 o17 k17 h715 n0 O717 HE' gb_o17 V_716 q724 q725 g6 g7 q726 q727 q728 q729 g102 g103 g124 g125) hZ (ww hw 9 rfl) (ww hw 8 rfl) (by decide) (by decide)) (g := (mkF m 336 Ls713 [(.ref o17)])) rfl (by rw [hml]; rfl) (argsL := [(.ref o17)]) (rest := []) (lenOf pd2 rfl) rfl (by show 2 * 0 + _ ≤ _; exact Nat.le_of_eq rfl) (hb hby at_336) (fun _ _ => ⟨rfl, e715, (by decide : 2 + 13 ≤ _), (by decide : 16 + 220 ≤ _)⟩)
        dsimp only [Pt.U, Pt.locs, Pt.cells, Pt.slots] at Xrc730 hSrc730 hgrc730 lc730 yc730 zc730 stc730 hQc730
        subst lc730 yc730 zc730
        obtain ⟨Xc730, hSc730, hZ, hown⟩ := rebS hS0 (by rw [e715]; exact hk719) Xrc730 hSrc730 hgrc730 hZ hown
        obtain ⟨Nqc730, hAc730⟩ := hQc730
        have Nc730 := Fr.app N721 Nqc730
        obtain ⟨o1_c730, rfl, Kcc730, gn_o1_c730, zn_o1_c730, f_731, f_732, f_733, f_734, f_735, f_736, f_737, f_738, f_739⟩ := hAc730
        have ne_o17_o1_c730 : o17 ≠ o1_c730 := Nat.ne_of_lt (Nat.lt_of_lt_of_le V_716.lt zn_o1_c730)
        have ne_o206_o1_c730 : o206 ≠ o1_c730 := Nat.ne_of_lt (Nat.lt_of_lt_of_le V_720.lt zn_o1_c730)
        have sz_o1_c730 : h0.size ≤ o1_c730 := Nat.le_trans (K718).1 zn_o1_c730
        have V_740 := V_716.keep Kcc730 nin0
        have V_741 := V_720.keep Kcc730 nin0
        have O742 := O717.keep Kcc730 all0
        have K743 := Keep.trans K718 Kcc730 all0
        have p744 : ∀ t, St p e below Tc730 (mkF m 339 Ls713 [(.ref o1_c730)]) t → S0 t := fun t k => p723 t (stc730.trans k)
        let Ls745 : Array Slot := #[.val (.long j0), .second, .val (.long j1), .second, .val (.long j2), .second, .val (.int i3), .val (.int i4), .val (.long j5), .second, .val (.long w4), .second, .val (.ref o17), .val (.int (5 : Int32)), .val (.long w143), .second, .val (.ref o206), .val (.ref o1_c730), .unset, .unset, .unset]
        have p746 : ∀ t, St p e below Tc730 (mkF m 343 Ls745 [(.ref o206)]) t → S0 t := fun t k => p744 t (by
          refine XS.astore Xc730.here hx rfl (hb hby at_339) rfl rfl (l' := Ls745) rfl ?_
          refine XS.aload Xc730.here hx rfl (hb hby at_341) rfl rfl ?_
          exact k)
        have q747 : ¬ (w143 < (0 : Int64)) := fun r => ar47 g711 g145 g146 r
        have q748 : ¬ ((4294967295 : Int64) < w143) := fun r => ar48 g711 g145 g146 q747 r
        obtain ⟨_, _, ⟨Tc749, Lc749, kc749, nc749⟩, -, Xrc749, hSrc749, hgrc749, ⟨Lcc749, hQc749, lc749, yc749, zc749⟩, stc749⟩ := callSS Xc730 hx (y := M2) hown (mvT hZ (ww hw 6 rfl)) (mvT hZ (ww hw 7 rfl)) (mvT hZ (ww hw 8 rfl)) (mvT hZ (ww hw 9 rfl)) (by decide) (backOfS (W := 0) (rm1_0 l Z a0 hw [] a_cache clC w25 w42 w4 w66 w82 w143 j0 w120 o206 k206 Tc730.heap n0 O742 HE' gb_o206 V_741 q724 q725 g6 g7 q726 q727 q728 q729 q747 q748 g124 g125) hZ (ww hw 9 rfl) (ww hw 8 rfl) (by decide) (by decide)) (g := (mkF m 343 Ls745 [(.ref o206)])) rfl (by rw [hml]; rfl) (argsL := [(.ref o206)]) (rest := []) (lenOf pd2 rfl) rfl (by show 2 * 0 + _ ≤ _; exact Nat.le_of_eq rfl) (hb hby at_343) (fun _ _ => ⟨rfl, rfl, (by decide : 15 + 13 ≤ _), (by decide : 236 + 220 ≤ _)⟩)
        dsimp only [Pt.U, Pt.locs, Pt.cells, Pt.slots] at Xrc749 hSrc749 hgrc749 lc749 yc749 zc749 stc749 hQc749
        subst lc749 yc749 zc749
        obtain ⟨Xc749, hSc749, hZ, hown⟩ := rebS hSc730 ((Nat.le_refl _)) Xrc749 hSrc749 hgrc749 hZ hown
        obtain ⟨Nqc749, hAc749⟩ := hQc749
        have Nc749 := Fr.app Nc730 Nqc749
        obtain ⟨o1_c749, rfl, Kcc749, gn_o1_c749, zn_o1_c749, f_750, f_751, f_752, f_753, f_754, f_755, f_756, f_757, f_758⟩ := hAc749
        have ne_o17_o1_c749 : o17 ≠ o1_c749 := Nat.ne_of_lt (Nat.lt_of_lt_of_le V_740.lt zn_o1_c749)
        have ne_o206_o1_c749 : o206 ≠ o1_c749 := Nat.ne_of_lt (Nat.lt_of_lt_of_le V_741.lt zn_o1_c749)
        have ne_o1_c730_o1_c749 : o1_c730 ≠ o1_c749 := Nat.ne_of_lt (Nat.lt_of_lt_of_le f_731.lt zn_o1_c749)
        have sz_o1_c749 : h0.size ≤ o1_c749 := Nat.le_trans (K743).1 zn_o1_c749
        have V_759 := V_740.keep Kcc749 nin0
        have V_760 := V_741.keep Kcc749 nin0
        have E_761 := f_731.keep Kcc749
        have F_762 := f_732.keep Kcc749 nin0
        have F_763 := f_733.keep Kcc749 nin0
        have F_764 := f_734.keep Kcc749 nin0
        have F_765 := f_735.keep Kcc749 nin0
        have F_766 := f_736.keep Kcc749 nin0
        have F_767 := f_737.keep Kcc749 nin0
        have F_768 := f_738.keep Kcc749 nin0
        have F_769 := f_739.keep Kcc749 nin0
        have O770 := O742.keep Kcc749 all0
        have K771 := Keep.trans K743 Kcc749 all0
        have p772 : ∀ t, St p e below Tc749 (mkF m 346 Ls745 [(.ref o1_c749)]) t → S0 t := fun t k => p746 t (stc749.trans k)
        let Ls773 : Array Slot := #[.val (.long j0), .second, .val (.long j1), .second, .val (.long j2), .second, .val (.int i3), .val (.int i4), .val (.long j5), .second, .val (.long w4), .second, .val (.ref o17), .val (.int (5 : Int32)), .val (.long w143), .second, .val (.ref o206), .val (.ref o1_c730), .val (.ref o1_c749), .unset, .unset]
        have p774 : ∀ t, St p e below Tc749 (mkF m 361 Ls773 [(.int (5 : Int32)), (.ref o17), (.long w143)]) t → S0 t := fun t k => p772 t (by
          refine XS.astore Xc749.here hx rfl (hb hby at_346) rfl rfl (l' := Ls773) rfl ?_
          refine XS.iload Xc749.here hx rfl (hb hby at_348) rfl ?_
          refine XT.bipushV Xc749.here hx rfl (8 : Int32) (hb hby at_350) (by decide) ?_
          refine XS.icmpNo Xc749.here hx rfl (hb hby at_352) rfl (feq (by decide : ¬ ((5 : Int32) = (8 : Int32)))).1 ?_
          refine XS.lload Xc749.here hx rfl (hb hby at_355) rfl ?_
          show St p e below Tc749 (mkF m 357 Ls773 [(.long w143)]) t
          refine XS.aload Xc749.here hx rfl (hb hby at_357) rfl rfl ?_
          refine XS.iload Xc749.here hx rfl (hb hby at_359) rfl ?_
          exact k)
        obtain ⟨cl775, Ar775, -, Sz775, -, Hs775, -⟩ := id V_759
        have hin775 : ¬ ((5 : Int32) < 0 ∨ cl775.slots.size ≤ (5 : Int32).toNatClampNeg) := inb_of Sz775 ⟨by decide, by decide⟩
        have hat775 : cl775.slots[(5 : Int32).toNatClampNeg]? = some (.long w98) := Hs775.at hin775 rfl
        have p776 : ∀ t, St p e below Tc749 (mkF m 363 Ls773 [(.int (lcmpW w143 w98))]) t → S0 t := fun t k => p774 t (by
          refine Xc749.laload hx (j := (5 : Int32)) (v := (.long w98)) Ar775.1 (State.isArrayOf_alike hZ.alike Ar775.2.1) Ar775.2.2 hin775 hat775 (g := (mkF m 361 Ls773 [(.int (5 : Int32)), (.ref o17), (.long w143)])) rfl rfl (hb hby at_361) _ ?_
          refine XS.lcmp Xc749.here hx rfl (hb hby at_362) rfl ?_
          exact k)
        by_cases g777 : w143 = w98
        ·
         let Ls778 : Array Slot := #[.val (.long j0), .second, .val (.long j1), .second, .val (.long j2), .second, .val (.int i3), .val (.int i4), .val (.long j5), .second, .val (.long w4), .second, .val (.ref o17), .val (.int (5 : Int32)), .val (.long w143), .second, .val (.ref o206), .val (.ref o1_c730), .val (.ref o1_c749), .val (.int (1 : Int32)), .unset]
         have p779 : ∀ t, St p e below Tc749 (mkF m 373 Ls778 []) t → S0 t := fun t k => p776 t (by
           refine XS.ifNo Xc749.here hx rfl (hb hby at_363) rfl ((if0 _ _).trans (teq ((lw_eq _ _).mpr g777)).2) ?_
           refine XT.iconstV Xc749.here hx rfl (1 : Int32) (hb hby at_366) (by decide) ?_
           refine XS.goto Xc749.here hx rfl (pc0 := 367) (pc' := 371) rfl (hb hby at_367) (by decide) (by decide) ?_
           refine XS.istore Xc749.here hx rfl (hb hby at_371) rfl (l' := Ls778) rfl ?_
           exact k)
         have q780 : w98 = w143 := Decidable.byContradiction fun r => ar70 g711 g102 g103 g145 g146 q747 q748 g777 r
         exact ⟨(5 : Int32), (1 : Int32), w25, w42, w4, w66, w82, w143, j0, w120, ((own_nz w25) &&& (1 : Int32)), (((w42.toInt32).toInt64).toInt32), (((w66.toInt32).toInt64).toInt32), (((w82.toInt32).toInt64).toInt32), o1_c730, o1_c749, Tc749, _, Tc749.heap, _, _, Xc749, rfl, Nc749, O770, K771, hSc749, (Nat.le_refl _), hZ, hown, gn_o1_c730, sz_o1_c730, gn_o1_c749, sz_o1_c749, ne_o17_o1_c730, ne_o17_o1_c749, ne_o206_o1_c730, ne_o206_o1_c749, ne_o1_c730_o1_c749, V_759, V_760, E_761, F_762, F_763, F_764, F_765, F_766, F_767, F_768, F_769, f_750, f_751, f_752, f_753, f_754, f_755, f_756, f_757, f_758, (own_eq8_1 rfl rfl rfl rfl rfl q780 rfl rfl), (own_eq8_1 rfl rfl rfl rfl rfl g777 rfl rfl), p779⟩
        ·
         let Ls781 : Array Slot := #[.val (.long j0), .second, .val (.long j1), .second, .val (.long j2), .second, .val (.int i3), .val (.int i4), .val (.long j5), .second, .val (.long w4), .second, .val (.ref o17), .val (.int (5 : Int32)), .val (.long w143), .second, .val (.ref o206), .val (.ref o1_c730), .val (.ref o1_c749), .val (.int (0 : Int32)), .unset]
         have p782 : ∀ t, St p e below Tc749 (mkF m 373 Ls781 []) t → S0 t := fun t k => p776 t (by
           refine XS.ifYes Xc749.here hx rfl (pc0 := 363) (pc' := 370) rfl (hb hby at_363) rfl ((if0 _ _).trans (feq (mt (lw_eq _ _).mp g777)).2) (by decide) (by decide) ?_
           refine XT.iconstV Xc749.here hx rfl (0 : Int32) (hb hby at_370) (by decide) ?_
           refine XS.istore Xc749.here hx rfl (hb hby at_371) rfl (l' := Ls781) rfl ?_
           exact k)
         have q783 : ¬ (w98 = w143) := fun r => ar71 g711 g102 g103 g145 g146 q747 q748 g777 r
         exact ⟨(5 : Int32), (0 : Int32), w25, w42, w4, w66, w82, w143, j0, w120, ((own_nz w25) &&& (1 : Int32)), (((w42.toInt32).toInt64).toInt32), (((w66.toInt32).toInt64).toInt32), (((w82.toInt32).toInt64).toInt32), o1_c730, o1_c749, Tc749, _, Tc749.heap, _, _, Xc749, rfl, Nc749, O770, K771, hSc749, (Nat.le_refl _), hZ, hown, gn_o1_c730, sz_o1_c730, gn_o1_c749, sz_o1_c749, ne_o17_o1_c730, ne_o17_o1_c749, ne_o206_o1_c730, ne_o206_o1_c749, ne_o1_c730_o1_c749, V_759, V_760, E_761, F_762, F_763, F_764, F_765, F_766, F_767, F_768, F_769, f_750, f_751, f_752, f_753, f_754, f_755, f_756, f_757, f_758, (own_eq8_n5 q783), (own_eq8_n5 g777), p782⟩
       ·
        by_cases g784 : w134 = (6 : Int32)
        ·
         let Ls786 : Array Slot := #[.val (.long j0), .second, .val (.long j1), .second, .val (.long j2), .second, .val (.int i3), .val (.int i4), .val (.long j5), .second, .val (.long w4), .second, .val (.ref o17), .val (.int (6 : Int32)), .val (.long w143), .second, .val (.ref o206), .unset, .unset, .unset, .unset]
         have p785 : ∀ t, St p e below T293 (mkF m 320 Ls786 []) t → S0 t := fun t k => p302 t (by show St p e below T293 (mkF m 320 #[.val (.long j0), .second, .val (.long j1), .second, .val (.long j2), .second, .val (.int i3), .val (.int i4), .val (.long j5), .second, .val (.long w4), .second, .val (.ref o17), .val (.int w134), .val (.long w143), .second, .val (.ref o206), .unset, .unset, .unset, .unset] []) t; rw [g784]; exact k)
         have p787 : ∀ t, St p e below T293 (mkF m 333 Ls786 [(.long w143), (.int (6 : Int32)), (.ref o206)]) t → S0 t := fun t k => p785 t (by
           refine XS.iload X293.here hx rfl (hb hby at_320) rfl ?_
           refine XT.bipushV X293.here hx rfl (8 : Int32) (hb hby at_322) (by decide) ?_
           refine XS.icmpNo X293.here hx rfl (hb hby at_324) rfl (tlt (by decide : (6 : Int32) < (8 : Int32))).2.1 ?_
           refine XS.aload X293.here hx rfl (hb hby at_327) rfl rfl ?_
           refine XS.iload X293.here hx rfl (hb hby at_329) rfl ?_
           show St p e below T293 (mkF m 331 Ls786 [(.int (6 : Int32)), (.ref o206)]) t
           refine XS.lload X293.here hx rfl (hb hby at_331) rfl ?_
           exact k)
         obtain ⟨cl788, Ar788, q788, Sz788, Nn788, Hs788, Gf788⟩ := id V_298
         have hin788 : ¬ ((6 : Int32) < 0 ∨ cl788.slots.size ≤ (6 : Int32).toNatClampNeg) := inb_of Sz788 ⟨by decide, by decide⟩
         obtain ⟨T788, h788, X788, e788, W788, st788⟩ := stJ X293 hx hZ e293 Ar788 (j := (6 : Int32)) hin788 (g := (mkF m 333 Ls786 [(.long w143), (.int (6 : Int32)), (.ref o206)])) rfl rfl (hb hby at_333)
         have V_789 := V_294.other W788 ne_o17_o206
         have O790 := O295.wr W788 gb_o206
         have K791 := K296.wr W788 (Or.inr sz_o206)
         have hk792 := Nat.le_trans hk297 (Keep.of_wr W788).1
         have V_793 : Arv Z h788 o206 k206 .long (8 : Int32) [(.long w25), (.long w42), (.long w4), (.long w66), (.long w82), (.long w98), (.long w143), (.long w120)] (.long (0 : Int64)) := Arv.set Ar788 q788 Sz788 Nn788 Hs788 Gf788 rfl W788 6 rfl (Nat.le_of_ble_eq_true rfl)
         have N794 := Fr.snoc X788 N299 gb_o206
         have p795 : ∀ t, St p e below T788 (mkF m 334 Ls786 []) t → S0 t := fun t k => p787 t (st788 t k)
         have p796 : ∀ t, St p e below T788 (mkF m 336 Ls786 [(.ref o17)]) t → S0 t := fun t k => p795 t (by
           refine XS.aload X788.here hx rfl (hb hby at_334) rfl rfl ?_
           exact k)
         have q797 : ¬ (((w42.toInt32).toInt64) < (0 : Int64)) := fun r => ar37 g47 g48 g49 r
         have q798 : ¬ ((65535 : Int64) < ((w42.toInt32).toInt64)) := fun r => ar38 g47 g48 g49 q797 r
         have q799 : ¬ (((w66.toInt32).toInt64) < (0 : Int64)) := fun r => ar37 g71 g72 g73 r
         have q800 : ¬ ((65535 : Int64) < ((w66.toInt32).toInt64)) := fun r => ar38 g71 g72 g73 q799 r
         have q801 : ¬ (((w82.toInt32).toInt64) < (0 : Int64)) := fun r => ar37 g87 g88 g89 r
         have q802 : ¬ ((65535 : Int64) < ((w82.toInt32).toInt64)) := fun r => ar38 g87 g88 g89 q801 r
         obtain ⟨_, _, ⟨Tc803, Lc803, kc803, nc803⟩, -, Xrc803, hSrc803, hgrc803, ⟨Lcc803, hQc803, lc803, yc803, zc803⟩, stc803⟩ := callSS X788 hx (y := M2) hown (mvT hZ (ww hw 6 rfl)) (mvT hZ (ww hw 7 rfl)) (mvT hZ (ww hw 8 rfl)) (mvT hZ (ww hw 9 rfl)) (by decide) (backOfS (W := 0) (rm1_0 l Z a0 hw [] a_cache clC w25 w42 w4 w66 w82 w98 j0 w120 o17 k17 h788 n0 O790 HE' gb_o17 V_789 q797 q798 g6 g7 q799 q800 q801 q802 g102 g103 g124 g125) hZ (ww hw 9 rfl) (ww hw 8 rfl) (by decide) (by decide)) (g := (mkF m 336 Ls786 [(.ref o17)])) rfl (by rw [hml]; rfl) (argsL := [(.ref o17)]) (rest := []) (lenOf pd2 rfl) rfl (by show 2 * 0 + _ ≤ _; exact Nat.le_of_eq rfl) (hb hby at_336) (fun _ _ => ⟨rfl, e788, (by decide : 2 + 13 ≤ _), (by decide : 16 + 220 ≤ _)⟩)
         dsimp only [Pt.U, Pt.locs, Pt.cells, Pt.slots] at Xrc803 hSrc803 hgrc803 lc803 yc803 zc803 stc803 hQc803
         subst lc803 yc803 zc803
         obtain ⟨Xc803, hSc803, hZ, hown⟩ := rebS hS0 (by rw [e788]; exact hk792) Xrc803 hSrc803 hgrc803 hZ hown
         obtain ⟨Nqc803, hAc803⟩ := hQc803
         have Nc803 := Fr.app N794 Nqc803
         obtain ⟨o1_c803, rfl, Kcc803, gn_o1_c803, zn_o1_c803, f_804, f_805, f_806, f_807, f_808, f_809, f_810, f_811, f_812⟩ := hAc803
         have ne_o17_o1_c803 : o17 ≠ o1_c803 := Nat.ne_of_lt (Nat.lt_of_lt_of_le V_789.lt zn_o1_c803)
         have ne_o206_o1_c803 : o206 ≠ o1_c803 := Nat.ne_of_lt (Nat.lt_of_lt_of_le V_793.lt zn_o1_c803)
         have sz_o1_c803 : h0.size ≤ o1_c803 := Nat.le_trans (K791).1 zn_o1_c803
         have V_813 := V_789.keep Kcc803 nin0
         have V_814 := V_793.keep Kcc803 nin0
         have O815 := O790.keep Kcc803 all0
         have K816 := Keep.trans K791 Kcc803 all0
         have p817 : ∀ t, St p e below Tc803 (mkF m 339 Ls786 [(.ref o1_c803)]) t → S0 t := fun t k => p796 t (stc803.trans k)
         let Ls818 : Array Slot := #[.val (.long j0), .second, .val (.long j1), .second, .val (.long j2), .second, .val (.int i3), .val (.int i4), .val (.long j5), .second, .val (.long w4), .second, .val (.ref o17), .val (.int (6 : Int32)), .val (.long w143), .second, .val (.ref o206), .val (.ref o1_c803), .unset, .unset, .unset]
         have p819 : ∀ t, St p e below Tc803 (mkF m 343 Ls818 [(.ref o206)]) t → S0 t := fun t k => p817 t (by
           refine XS.astore Xc803.here hx rfl (hb hby at_339) rfl rfl (l' := Ls818) rfl ?_
           refine XS.aload Xc803.here hx rfl (hb hby at_341) rfl rfl ?_
           exact k)
         obtain ⟨_, _, ⟨Tc820, Lc820, kc820, nc820⟩, -, Xrc820, hSrc820, hgrc820, ⟨Lcc820, hQc820, lc820, yc820, zc820⟩, stc820⟩ := callSS Xc803 hx (y := M2) hown (mvT hZ (ww hw 6 rfl)) (mvT hZ (ww hw 7 rfl)) (mvT hZ (ww hw 8 rfl)) (mvT hZ (ww hw 9 rfl)) (by decide) (backOfS (W := 0) (rm1_0 l Z a0 hw [] a_cache clC w25 w42 w4 w66 w82 w98 w143 w120 o206 k206 Tc803.heap n0 O815 HE' gb_o206 V_814 q797 q798 g6 g7 q799 q800 q801 q802 g102 g103 g124 g125) hZ (ww hw 9 rfl) (ww hw 8 rfl) (by decide) (by decide)) (g := (mkF m 343 Ls818 [(.ref o206)])) rfl (by rw [hml]; rfl) (argsL := [(.ref o206)]) (rest := []) (lenOf pd2 rfl) rfl (by show 2 * 0 + _ ≤ _; exact Nat.le_of_eq rfl) (hb hby at_343) (fun _ _ => ⟨rfl, rfl, (by decide : 15 + 13 ≤ _), (by decide : 236 + 220 ≤ _)⟩)
         dsimp only [Pt.U, Pt.locs, Pt.cells, Pt.slots] at Xrc820 hSrc820 hgrc820 lc820 yc820 zc820 stc820 hQc820
         subst lc820 yc820 zc820
         obtain ⟨Xc820, hSc820, hZ, hown⟩ := rebS hSc803 ((Nat.le_refl _)) Xrc820 hSrc820 hgrc820 hZ hown
         obtain ⟨Nqc820, hAc820⟩ := hQc820
         have Nc820 := Fr.app Nc803 Nqc820
         obtain ⟨o1_c820, rfl, Kcc820, gn_o1_c820, zn_o1_c820, f_821, f_822, f_823, f_824, f_825, f_826, f_827, f_828, f_829⟩ := hAc820
         have ne_o17_o1_c820 : o17 ≠ o1_c820 := Nat.ne_of_lt (Nat.lt_of_lt_of_le V_813.lt zn_o1_c820)
         have ne_o206_o1_c820 : o206 ≠ o1_c820 := Nat.ne_of_lt (Nat.lt_of_lt_of_le V_814.lt zn_o1_c820)
         have ne_o1_c803_o1_c820 : o1_c803 ≠ o1_c820 := Nat.ne_of_lt (Nat.lt_of_lt_of_le f_804.lt zn_o1_c820)
         have sz_o1_c820 : h0.size ≤ o1_c820 := Nat.le_trans (K816).1 zn_o1_c820
         have V_830 := V_813.keep Kcc820 nin0
         have V_831 := V_814.keep Kcc820 nin0
         have E_832 := f_804.keep Kcc820
         have F_833 := f_805.keep Kcc820 nin0
         have F_834 := f_806.keep Kcc820 nin0
         have F_835 := f_807.keep Kcc820 nin0
         have F_836 := f_808.keep Kcc820 nin0
         have F_837 := f_809.keep Kcc820 nin0
         have F_838 := f_810.keep Kcc820 nin0
         have F_839 := f_811.keep Kcc820 nin0
         have F_840 := f_812.keep Kcc820 nin0
         have O841 := O815.keep Kcc820 all0
         have K842 := Keep.trans K816 Kcc820 all0
         have p843 : ∀ t, St p e below Tc820 (mkF m 346 Ls818 [(.ref o1_c820)]) t → S0 t := fun t k => p819 t (stc820.trans k)
         let Ls844 : Array Slot := #[.val (.long j0), .second, .val (.long j1), .second, .val (.long j2), .second, .val (.int i3), .val (.int i4), .val (.long j5), .second, .val (.long w4), .second, .val (.ref o17), .val (.int (6 : Int32)), .val (.long w143), .second, .val (.ref o206), .val (.ref o1_c803), .val (.ref o1_c820), .unset, .unset]
         have p845 : ∀ t, St p e below Tc820 (mkF m 361 Ls844 [(.int (6 : Int32)), (.ref o17), (.long w143)]) t → S0 t := fun t k => p843 t (by
           refine XS.astore Xc820.here hx rfl (hb hby at_346) rfl rfl (l' := Ls844) rfl ?_
           refine XS.iload Xc820.here hx rfl (hb hby at_348) rfl ?_
           refine XT.bipushV Xc820.here hx rfl (8 : Int32) (hb hby at_350) (by decide) ?_
           refine XS.icmpNo Xc820.here hx rfl (hb hby at_352) rfl (feq (by decide : ¬ ((6 : Int32) = (8 : Int32)))).1 ?_
           refine XS.lload Xc820.here hx rfl (hb hby at_355) rfl ?_
           show St p e below Tc820 (mkF m 357 Ls844 [(.long w143)]) t
           refine XS.aload Xc820.here hx rfl (hb hby at_357) rfl rfl ?_
           refine XS.iload Xc820.here hx rfl (hb hby at_359) rfl ?_
           exact k)
         obtain ⟨cl846, Ar846, -, Sz846, -, Hs846, -⟩ := id V_830
         have hin846 : ¬ ((6 : Int32) < 0 ∨ cl846.slots.size ≤ (6 : Int32).toNatClampNeg) := inb_of Sz846 ⟨by decide, by decide⟩
         have hat846 : cl846.slots[(6 : Int32).toNatClampNeg]? = some (.long j0) := Hs846.at hin846 rfl
         have p847 : ∀ t, St p e below Tc820 (mkF m 363 Ls844 [(.int (lcmpW w143 j0))]) t → S0 t := fun t k => p845 t (by
           refine Xc820.laload hx (j := (6 : Int32)) (v := (.long j0)) Ar846.1 (State.isArrayOf_alike hZ.alike Ar846.2.1) Ar846.2.2 hin846 hat846 (g := (mkF m 361 Ls844 [(.int (6 : Int32)), (.ref o17), (.long w143)])) rfl rfl (hb hby at_361) _ ?_
           refine XS.lcmp Xc820.here hx rfl (hb hby at_362) rfl ?_
           exact k)
         by_cases g848 : w143 = j0
         ·
          let Ls849 : Array Slot := #[.val (.long j0), .second, .val (.long j1), .second, .val (.long j2), .second, .val (.int i3), .val (.int i4), .val (.long j5), .second, .val (.long w4), .second, .val (.ref o17), .val (.int (6 : Int32)), .val (.long w143), .second, .val (.ref o206), .val (.ref o1_c803), .val (.ref o1_c820), .val (.int (1 : Int32)), .unset]
          have p850 : ∀ t, St p e below Tc820 (mkF m 373 Ls849 []) t → S0 t := fun t k => p847 t (by
            refine XS.ifNo Xc820.here hx rfl (hb hby at_363) rfl ((if0 _ _).trans (teq ((lw_eq _ _).mpr g848)).2) ?_
            refine XT.iconstV Xc820.here hx rfl (1 : Int32) (hb hby at_366) (by decide) ?_
            refine XS.goto Xc820.here hx rfl (pc0 := 367) (pc' := 371) rfl (hb hby at_367) (by decide) (by decide) ?_
            refine XS.istore Xc820.here hx rfl (hb hby at_371) rfl (l' := Ls849) rfl ?_
            exact k)
          have q851 : j0 = w143 := Decidable.byContradiction fun r => ar72 g784 g145 g146 g848 r
          exact ⟨(6 : Int32), (1 : Int32), w25, w42, w4, w66, w82, w98, w143, w120, ((own_nz w25) &&& (1 : Int32)), (((w42.toInt32).toInt64).toInt32), (((w66.toInt32).toInt64).toInt32), (((w82.toInt32).toInt64).toInt32), o1_c803, o1_c820, Tc820, _, Tc820.heap, _, _, Xc820, rfl, Nc820, O841, K842, hSc820, (Nat.le_refl _), hZ, hown, gn_o1_c803, sz_o1_c803, gn_o1_c820, sz_o1_c820, ne_o17_o1_c803, ne_o17_o1_c820, ne_o206_o1_c803, ne_o206_o1_c820, ne_o1_c803_o1_c820, V_830, V_831, E_832, F_833, F_834, F_835, F_836, F_837, F_838, F_839, F_840, f_821, f_822, f_823, f_824, f_825, f_826, f_827, f_828, f_829, (own_eq8_1 rfl rfl rfl rfl rfl rfl q851 rfl), (own_eq8_1 rfl rfl rfl rfl rfl rfl g848 rfl), p850⟩
         ·
          let Ls852 : Array Slot := #[.val (.long j0), .second, .val (.long j1), .second, .val (.long j2), .second, .val (.int i3), .val (.int i4), .val (.long j5), .second, .val (.long w4), .second, .val (.ref o17), .val (.int (6 : Int32)), .val (.long w143), .second, .val (.ref o206), .val (.ref o1_c803), .val (.ref o1_c820), .val (.int (0 : Int32)), .unset]
          have p853 : ∀ t, St p e below Tc820 (mkF m 373 Ls852 []) t → S0 t := fun t k => p847 t (by
            refine XS.ifYes Xc820.here hx rfl (pc0 := 363) (pc' := 370) rfl (hb hby at_363) rfl ((if0 _ _).trans (feq (mt (lw_eq _ _).mp g848)).2) (by decide) (by decide) ?_
            refine XT.iconstV Xc820.here hx rfl (0 : Int32) (hb hby at_370) (by decide) ?_
            refine XS.istore Xc820.here hx rfl (hb hby at_371) rfl (l' := Ls852) rfl ?_
            exact k)
          have q854 : ¬ (j0 = w143) := fun r => ar73 g784 g145 g146 g848 r
          exact ⟨(6 : Int32), (0 : Int32), w25, w42, w4, w66, w82, w98, w143, w120, ((own_nz w25) &&& (1 : Int32)), (((w42.toInt32).toInt64).toInt32), (((w66.toInt32).toInt64).toInt32), (((w82.toInt32).toInt64).toInt32), o1_c803, o1_c820, Tc820, _, Tc820.heap, _, _, Xc820, rfl, Nc820, O841, K842, hSc820, (Nat.le_refl _), hZ, hown, gn_o1_c803, sz_o1_c803, gn_o1_c820, sz_o1_c820, ne_o17_o1_c803, ne_o17_o1_c820, ne_o206_o1_c803, ne_o206_o1_c820, ne_o1_c803_o1_c820, V_830, V_831, E_832, F_833, F_834, F_835, F_836, F_837, F_838, F_839, F_840, f_821, f_822, f_823, f_824, f_825, f_826, f_827, f_828, f_829, (own_eq8_n6 q854), (own_eq8_n6 g848), p853⟩
        ·
         by_cases g855 : w134 = (7 : Int32)
         ·
          let Ls857 : Array Slot := #[.val (.long j0), .second, .val (.long j1), .second, .val (.long j2), .second, .val (.int i3), .val (.int i4), .val (.long j5), .second, .val (.long w4), .second, .val (.ref o17), .val (.int (7 : Int32)), .val (.long w143), .second, .val (.ref o206), .unset, .unset, .unset, .unset]
          have p856 : ∀ t, St p e below T293 (mkF m 320 Ls857 []) t → S0 t := fun t k => p302 t (by show St p e below T293 (mkF m 320 #[.val (.long j0), .second, .val (.long j1), .second, .val (.long j2), .second, .val (.int i3), .val (.int i4), .val (.long j5), .second, .val (.long w4), .second, .val (.ref o17), .val (.int w134), .val (.long w143), .second, .val (.ref o206), .unset, .unset, .unset, .unset] []) t; rw [g855]; exact k)
          have p858 : ∀ t, St p e below T293 (mkF m 333 Ls857 [(.long w143), (.int (7 : Int32)), (.ref o206)]) t → S0 t := fun t k => p856 t (by
            refine XS.iload X293.here hx rfl (hb hby at_320) rfl ?_
            refine XT.bipushV X293.here hx rfl (8 : Int32) (hb hby at_322) (by decide) ?_
            refine XS.icmpNo X293.here hx rfl (hb hby at_324) rfl (tlt (by decide : (7 : Int32) < (8 : Int32))).2.1 ?_
            refine XS.aload X293.here hx rfl (hb hby at_327) rfl rfl ?_
            refine XS.iload X293.here hx rfl (hb hby at_329) rfl ?_
            show St p e below T293 (mkF m 331 Ls857 [(.int (7 : Int32)), (.ref o206)]) t
            refine XS.lload X293.here hx rfl (hb hby at_331) rfl ?_
            exact k)
          obtain ⟨cl859, Ar859, q859, Sz859, Nn859, Hs859, Gf859⟩ := id V_298
          have hin859 : ¬ ((7 : Int32) < 0 ∨ cl859.slots.size ≤ (7 : Int32).toNatClampNeg) := inb_of Sz859 ⟨by decide, by decide⟩
          obtain ⟨T859, h859, X859, e859, W859, st859⟩ := stJ X293 hx hZ e293 Ar859 (j := (7 : Int32)) hin859 (g := (mkF m 333 Ls857 [(.long w143), (.int (7 : Int32)), (.ref o206)])) rfl rfl (hb hby at_333)
          have V_860 := V_294.other W859 ne_o17_o206
          have O861 := O295.wr W859 gb_o206
          have K862 := K296.wr W859 (Or.inr sz_o206)
          have hk863 := Nat.le_trans hk297 (Keep.of_wr W859).1
          have V_864 : Arv Z h859 o206 k206 .long (8 : Int32) [(.long w25), (.long w42), (.long w4), (.long w66), (.long w82), (.long w98), (.long j0), (.long w143)] (.long (0 : Int64)) := Arv.set Ar859 q859 Sz859 Nn859 Hs859 Gf859 rfl W859 7 rfl (Nat.le_of_ble_eq_true rfl)
          have N865 := Fr.snoc X859 N299 gb_o206
          have p866 : ∀ t, St p e below T859 (mkF m 334 Ls857 []) t → S0 t := fun t k => p858 t (st859 t k)
          have p867 : ∀ t, St p e below T859 (mkF m 336 Ls857 [(.ref o17)]) t → S0 t := fun t k => p866 t (by
            refine XS.aload X859.here hx rfl (hb hby at_334) rfl rfl ?_
            exact k)
          have q868 : ¬ (((w42.toInt32).toInt64) < (0 : Int64)) := fun r => ar37 g47 g48 g49 r
          have q869 : ¬ ((65535 : Int64) < ((w42.toInt32).toInt64)) := fun r => ar38 g47 g48 g49 q868 r
          have q870 : ¬ (((w66.toInt32).toInt64) < (0 : Int64)) := fun r => ar37 g71 g72 g73 r
          have q871 : ¬ ((65535 : Int64) < ((w66.toInt32).toInt64)) := fun r => ar38 g71 g72 g73 q870 r
          have q872 : ¬ (((w82.toInt32).toInt64) < (0 : Int64)) := fun r => ar37 g87 g88 g89 r
          have q873 : ¬ ((65535 : Int64) < ((w82.toInt32).toInt64)) := fun r => ar38 g87 g88 g89 q872 r
          obtain ⟨_, _, ⟨Tc874, Lc874, kc874, nc874⟩, -, Xrc874, hSrc874, hgrc874, ⟨Lcc874, hQc874, lc874, yc874, zc874⟩, stc874⟩ := callSS X859 hx (y := M2) hown (mvT hZ (ww hw 6 rfl)) (mvT hZ (ww hw 7 rfl)) (mvT hZ (ww hw 8 rfl)) (mvT hZ (ww hw 9 rfl)) (by decide) (backOfS (W := 0) (rm1_0 l Z a0 hw [] a_cache clC w25 w42 w4 w66 w82 w98 j0 w120 o17 k17 h859 n0 O861 HE' gb_o17 V_860 q868 q869 g6 g7 q870 q871 q872 q873 g102 g103 g124 g125) hZ (ww hw 9 rfl) (ww hw 8 rfl) (by decide) (by decide)) (g := (mkF m 336 Ls857 [(.ref o17)])) rfl (by rw [hml]; rfl) (argsL := [(.ref o17)]) (rest := []) (lenOf pd2 rfl) rfl (by show 2 * 0 + _ ≤ _; exact Nat.le_of_eq rfl) (hb hby at_336) (fun _ _ => ⟨rfl, e859, (by decide : 2 + 13 ≤ _), (by decide : 16 + 220 ≤ _)⟩)
          dsimp only [Pt.U, Pt.locs, Pt.cells, Pt.slots] at Xrc874 hSrc874 hgrc874 lc874 yc874 zc874 stc874 hQc874
          subst lc874 yc874 zc874
          obtain ⟨Xc874, hSc874, hZ, hown⟩ := rebS hS0 (by rw [e859]; exact hk863) Xrc874 hSrc874 hgrc874 hZ hown
          obtain ⟨Nqc874, hAc874⟩ := hQc874
          have Nc874 := Fr.app N865 Nqc874
          obtain ⟨o1_c874, rfl, Kcc874, gn_o1_c874, zn_o1_c874, f_875, f_876, f_877, f_878, f_879, f_880, f_881, f_882, f_883⟩ := hAc874
          have ne_o17_o1_c874 : o17 ≠ o1_c874 := Nat.ne_of_lt (Nat.lt_of_lt_of_le V_860.lt zn_o1_c874)
          have ne_o206_o1_c874 : o206 ≠ o1_c874 := Nat.ne_of_lt (Nat.lt_of_lt_of_le V_864.lt zn_o1_c874)
          have sz_o1_c874 : h0.size ≤ o1_c874 := Nat.le_trans (K862).1 zn_o1_c874
          have V_884 := V_860.keep Kcc874 nin0
          have V_885 := V_864.keep Kcc874 nin0
          have O886 := O861.keep Kcc874 all0
          have K887 := Keep.trans K862 Kcc874 all0
          have p888 : ∀ t, St p e below Tc874 (mkF m 339 Ls857 [(.ref o1_c874)]) t → S0 t := fun t k => p867 t (stc874.trans k)
          let Ls889 : Array Slot := #[.val (.long j0), .second, .val (.long j1), .second, .val (.long j2), .second, .val (.int i3), .val (.int i4), .val (.long j5), .second, .val (.long w4), .second, .val (.ref o17), .val (.int (7 : Int32)), .val (.long w143), .second, .val (.ref o206), .val (.ref o1_c874), .unset, .unset, .unset]
          have p890 : ∀ t, St p e below Tc874 (mkF m 343 Ls889 [(.ref o206)]) t → S0 t := fun t k => p888 t (by
            refine XS.astore Xc874.here hx rfl (hb hby at_339) rfl rfl (l' := Ls889) rfl ?_
            refine XS.aload Xc874.here hx rfl (hb hby at_341) rfl rfl ?_
            exact k)
          have q891 : ¬ (w143 < (0 : Int64)) := fun r => ar49 g855 g145 g146 r
          have q892 : ¬ ((4294967295 : Int64) < w143) := fun r => ar50 g855 g145 g146 q891 r
          obtain ⟨_, _, ⟨Tc893, Lc893, kc893, nc893⟩, -, Xrc893, hSrc893, hgrc893, ⟨Lcc893, hQc893, lc893, yc893, zc893⟩, stc893⟩ := callSS Xc874 hx (y := M2) hown (mvT hZ (ww hw 6 rfl)) (mvT hZ (ww hw 7 rfl)) (mvT hZ (ww hw 8 rfl)) (mvT hZ (ww hw 9 rfl)) (by decide) (backOfS (W := 0) (rm1_0 l Z a0 hw [] a_cache clC w25 w42 w4 w66 w82 w98 j0 w143 o206 k206 Tc874.heap n0 O886 HE' gb_o206 V_885 q868 q869 g6 g7 q870 q871 q872 q873 g102 g103 q891 q892) hZ (ww hw 9 rfl) (ww hw 8 rfl) (by decide) (by decide)) (g := (mkF m 343 Ls889 [(.ref o206)])) rfl (by rw [hml]; rfl) (argsL := [(.ref o206)]) (rest := []) (lenOf pd2 rfl) rfl (by show 2 * 0 + _ ≤ _; exact Nat.le_of_eq rfl) (hb hby at_343) (fun _ _ => ⟨rfl, rfl, (by decide : 15 + 13 ≤ _), (by decide : 236 + 220 ≤ _)⟩)
          dsimp only [Pt.U, Pt.locs, Pt.cells, Pt.slots] at Xrc893 hSrc893 hgrc893 lc893 yc893 zc893 stc893 hQc893
          subst lc893 yc893 zc893
          obtain ⟨Xc893, hSc893, hZ, hown⟩ := rebS hSc874 ((Nat.le_refl _)) Xrc893 hSrc893 hgrc893 hZ hown
          obtain ⟨Nqc893, hAc893⟩ := hQc893
          have Nc893 := Fr.app Nc874 Nqc893
          obtain ⟨o1_c893, rfl, Kcc893, gn_o1_c893, zn_o1_c893, f_894, f_895, f_896, f_897, f_898, f_899, f_900, f_901, f_902⟩ := hAc893
          have ne_o17_o1_c893 : o17 ≠ o1_c893 := Nat.ne_of_lt (Nat.lt_of_lt_of_le V_884.lt zn_o1_c893)
          have ne_o206_o1_c893 : o206 ≠ o1_c893 := Nat.ne_of_lt (Nat.lt_of_lt_of_le V_885.lt zn_o1_c893)
          have ne_o1_c874_o1_c893 : o1_c874 ≠ o1_c893 := Nat.ne_of_lt (Nat.lt_of_lt_of_le f_875.lt zn_o1_c893)
          have sz_o1_c893 : h0.size ≤ o1_c893 := Nat.le_trans (K887).1 zn_o1_c893
          have V_903 := V_884.keep Kcc893 nin0
          have V_904 := V_885.keep Kcc893 nin0
          have E_905 := f_875.keep Kcc893
          have F_906 := f_876.keep Kcc893 nin0
          have F_907 := f_877.keep Kcc893 nin0
          have F_908 := f_878.keep Kcc893 nin0
          have F_909 := f_879.keep Kcc893 nin0
          have F_910 := f_880.keep Kcc893 nin0
          have F_911 := f_881.keep Kcc893 nin0
          have F_912 := f_882.keep Kcc893 nin0
          have F_913 := f_883.keep Kcc893 nin0
          have O914 := O886.keep Kcc893 all0
          have K915 := Keep.trans K887 Kcc893 all0
          have p916 : ∀ t, St p e below Tc893 (mkF m 346 Ls889 [(.ref o1_c893)]) t → S0 t := fun t k => p890 t (stc893.trans k)
          let Ls917 : Array Slot := #[.val (.long j0), .second, .val (.long j1), .second, .val (.long j2), .second, .val (.int i3), .val (.int i4), .val (.long j5), .second, .val (.long w4), .second, .val (.ref o17), .val (.int (7 : Int32)), .val (.long w143), .second, .val (.ref o206), .val (.ref o1_c874), .val (.ref o1_c893), .unset, .unset]
          have p918 : ∀ t, St p e below Tc893 (mkF m 361 Ls917 [(.int (7 : Int32)), (.ref o17), (.long w143)]) t → S0 t := fun t k => p916 t (by
            refine XS.astore Xc893.here hx rfl (hb hby at_346) rfl rfl (l' := Ls917) rfl ?_
            refine XS.iload Xc893.here hx rfl (hb hby at_348) rfl ?_
            refine XT.bipushV Xc893.here hx rfl (8 : Int32) (hb hby at_350) (by decide) ?_
            refine XS.icmpNo Xc893.here hx rfl (hb hby at_352) rfl (feq (by decide : ¬ ((7 : Int32) = (8 : Int32)))).1 ?_
            refine XS.lload Xc893.here hx rfl (hb hby at_355) rfl ?_
            show St p e below Tc893 (mkF m 357 Ls917 [(.long w143)]) t
            refine XS.aload Xc893.here hx rfl (hb hby at_357) rfl rfl ?_
            refine XS.iload Xc893.here hx rfl (hb hby at_359) rfl ?_
            exact k)
          obtain ⟨cl919, Ar919, -, Sz919, -, Hs919, -⟩ := id V_903
          have hin919 : ¬ ((7 : Int32) < 0 ∨ cl919.slots.size ≤ (7 : Int32).toNatClampNeg) := inb_of Sz919 ⟨by decide, by decide⟩
          have hat919 : cl919.slots[(7 : Int32).toNatClampNeg]? = some (.long w120) := Hs919.at hin919 rfl
          have p920 : ∀ t, St p e below Tc893 (mkF m 363 Ls917 [(.int (lcmpW w143 w120))]) t → S0 t := fun t k => p918 t (by
            refine Xc893.laload hx (j := (7 : Int32)) (v := (.long w120)) Ar919.1 (State.isArrayOf_alike hZ.alike Ar919.2.1) Ar919.2.2 hin919 hat919 (g := (mkF m 361 Ls917 [(.int (7 : Int32)), (.ref o17), (.long w143)])) rfl rfl (hb hby at_361) _ ?_
            refine XS.lcmp Xc893.here hx rfl (hb hby at_362) rfl ?_
            exact k)
          by_cases g921 : w143 = w120
          ·
           let Ls922 : Array Slot := #[.val (.long j0), .second, .val (.long j1), .second, .val (.long j2), .second, .val (.int i3), .val (.int i4), .val (.long j5), .second, .val (.long w4), .second, .val (.ref o17), .val (.int (7 : Int32)), .val (.long w143), .second, .val (.ref o206), .val (.ref o1_c874), .val (.ref o1_c893), .val (.int (1 : Int32)), .unset]
           have p923 : ∀ t, St p e below Tc893 (mkF m 373 Ls922 []) t → S0 t := fun t k => p920 t (by
             refine XS.ifNo Xc893.here hx rfl (hb hby at_363) rfl ((if0 _ _).trans (teq ((lw_eq _ _).mpr g921)).2) ?_
             refine XT.iconstV Xc893.here hx rfl (1 : Int32) (hb hby at_366) (by decide) ?_
             refine XS.goto Xc893.here hx rfl (pc0 := 367) (pc' := 371) rfl (hb hby at_367) (by decide) (by decide) ?_
             refine XS.istore Xc893.here hx rfl (hb hby at_371) rfl (l' := Ls922) rfl ?_
             exact k)
           have q924 : w120 = w143 := Decidable.byContradiction fun r => ar74 g855 g124 g125 g145 g146 q891 q892 g921 r
           exact ⟨(7 : Int32), (1 : Int32), w25, w42, w4, w66, w82, w98, j0, w143, ((own_nz w25) &&& (1 : Int32)), (((w42.toInt32).toInt64).toInt32), (((w66.toInt32).toInt64).toInt32), (((w82.toInt32).toInt64).toInt32), o1_c874, o1_c893, Tc893, _, Tc893.heap, _, _, Xc893, rfl, Nc893, O914, K915, hSc893, (Nat.le_refl _), hZ, hown, gn_o1_c874, sz_o1_c874, gn_o1_c893, sz_o1_c893, ne_o17_o1_c874, ne_o17_o1_c893, ne_o206_o1_c874, ne_o206_o1_c893, ne_o1_c874_o1_c893, V_903, V_904, E_905, F_906, F_907, F_908, F_909, F_910, F_911, F_912, F_913, f_894, f_895, f_896, f_897, f_898, f_899, f_900, f_901, f_902, (own_eq8_1 rfl rfl rfl rfl rfl rfl rfl q924), (own_eq8_1 rfl rfl rfl rfl rfl rfl rfl g921), p923⟩
          ·
           let Ls925 : Array Slot := #[.val (.long j0), .second, .val (.long j1), .second, .val (.long j2), .second, .val (.int i3), .val (.int i4), .val (.long j5), .second, .val (.long w4), .second, .val (.ref o17), .val (.int (7 : Int32)), .val (.long w143), .second, .val (.ref o206), .val (.ref o1_c874), .val (.ref o1_c893), .val (.int (0 : Int32)), .unset]
           have p926 : ∀ t, St p e below Tc893 (mkF m 373 Ls925 []) t → S0 t := fun t k => p920 t (by
             refine XS.ifYes Xc893.here hx rfl (pc0 := 363) (pc' := 370) rfl (hb hby at_363) rfl ((if0 _ _).trans (feq (mt (lw_eq _ _).mp g921)).2) (by decide) (by decide) ?_
             refine XT.iconstV Xc893.here hx rfl (0 : Int32) (hb hby at_370) (by decide) ?_
             refine XS.istore Xc893.here hx rfl (hb hby at_371) rfl (l' := Ls925) rfl ?_
             exact k)
           have q927 : ¬ (w120 = w143) := fun r => ar75 g855 g124 g125 g145 g146 q891 q892 g921 r
           exact ⟨(7 : Int32), (0 : Int32), w25, w42, w4, w66, w82, w98, j0, w143, ((own_nz w25) &&& (1 : Int32)), (((w42.toInt32).toInt64).toInt32), (((w66.toInt32).toInt64).toInt32), (((w82.toInt32).toInt64).toInt32), o1_c874, o1_c893, Tc893, _, Tc893.heap, _, _, Xc893, rfl, Nc893, O914, K915, hSc893, (Nat.le_refl _), hZ, hown, gn_o1_c874, sz_o1_c874, gn_o1_c893, sz_o1_c893, ne_o17_o1_c874, ne_o17_o1_c893, ne_o206_o1_c874, ne_o206_o1_c893, ne_o1_c874_o1_c893, V_903, V_904, E_905, F_906, F_907, F_908, F_909, F_910, F_911, F_912, F_913, f_894, f_895, f_896, f_897, f_898, f_899, f_900, f_901, f_902, (own_eq8_n7 q927), (own_eq8_n7 g921), p926⟩
         ·
          by_cases g928 : w134 = (8 : Int32)
          ·
           let Ls930 : Array Slot := #[.val (.long j0), .second, .val (.long j1), .second, .val (.long j2), .second, .val (.int i3), .val (.int i4), .val (.long j5), .second, .val (.long w4), .second, .val (.ref o17), .val (.int (8 : Int32)), .val (.long w143), .second, .val (.ref o206), .unset, .unset, .unset, .unset]
           have p929 : ∀ t, St p e below T293 (mkF m 320 Ls930 []) t → S0 t := fun t k => p302 t (by show St p e below T293 (mkF m 320 #[.val (.long j0), .second, .val (.long j1), .second, .val (.long j2), .second, .val (.int i3), .val (.int i4), .val (.long j5), .second, .val (.long w4), .second, .val (.ref o17), .val (.int w134), .val (.long w143), .second, .val (.ref o206), .unset, .unset, .unset, .unset] []) t; rw [g928]; exact k)
           have p931 : ∀ t, St p e below T293 (mkF m 336 Ls930 [(.ref o17)]) t → S0 t := fun t k => p929 t (by
             refine XS.iload X293.here hx rfl (hb hby at_320) rfl ?_
             refine XT.bipushV X293.here hx rfl (8 : Int32) (hb hby at_322) (by decide) ?_
             refine XS.icmpYes X293.here hx rfl (pc0 := 324) (pc' := 334) rfl (hb hby at_324) rfl (flt (by decide : ¬ ((8 : Int32) < (8 : Int32)))).2.1 (by decide) (by decide) ?_
             refine XS.aload X293.here hx rfl (hb hby at_334) rfl rfl ?_
             exact k)
           have q932 : ¬ (((w42.toInt32).toInt64) < (0 : Int64)) := fun r => ar37 g47 g48 g49 r
           have q933 : ¬ ((65535 : Int64) < ((w42.toInt32).toInt64)) := fun r => ar38 g47 g48 g49 q932 r
           have q934 : ¬ (((w66.toInt32).toInt64) < (0 : Int64)) := fun r => ar37 g71 g72 g73 r
           have q935 : ¬ ((65535 : Int64) < ((w66.toInt32).toInt64)) := fun r => ar38 g71 g72 g73 q934 r
           have q936 : ¬ (((w82.toInt32).toInt64) < (0 : Int64)) := fun r => ar37 g87 g88 g89 r
           have q937 : ¬ ((65535 : Int64) < ((w82.toInt32).toInt64)) := fun r => ar38 g87 g88 g89 q936 r
           obtain ⟨_, _, ⟨Tc938, Lc938, kc938, nc938⟩, -, Xrc938, hSrc938, hgrc938, ⟨Lcc938, hQc938, lc938, yc938, zc938⟩, stc938⟩ := callSS X293 hx (y := M2) hown (mvT hZ (ww hw 6 rfl)) (mvT hZ (ww hw 7 rfl)) (mvT hZ (ww hw 8 rfl)) (mvT hZ (ww hw 9 rfl)) (by decide) (backOfS (W := 0) (rm1_0 l Z a0 hw [] a_cache clC w25 w42 w4 w66 w82 w98 j0 w120 o17 k17 h293 n0 O295 HE' gb_o17 V_294 q932 q933 g6 g7 q934 q935 q936 q937 g102 g103 g124 g125) hZ (ww hw 9 rfl) (ww hw 8 rfl) (by decide) (by decide)) (g := (mkF m 336 Ls930 [(.ref o17)])) rfl (by rw [hml]; rfl) (argsL := [(.ref o17)]) (rest := []) (lenOf pd2 rfl) rfl (by show 2 * 0 + _ ≤ _; exact Nat.le_of_eq rfl) (hb hby at_336) (fun _ _ => ⟨rfl, e293, (by decide : 2 + 13 ≤ _), (by decide : 16 + 220 ≤ _)⟩)
           dsimp only [Pt.U, Pt.locs, Pt.cells, Pt.slots] at Xrc938 hSrc938 hgrc938 lc938 yc938 zc938 stc938 hQc938
           subst lc938 yc938 zc938
           obtain ⟨Xc938, hSc938, hZ, hown⟩ := rebS hS0 (by rw [e293]; exact hk297) Xrc938 hSrc938 hgrc938 hZ hown
           obtain ⟨Nqc938, hAc938⟩ := hQc938
           have Nc938 := Fr.app N299 Nqc938
           obtain ⟨o1_c938, rfl, Kcc938, gn_o1_c938, zn_o1_c938, f_939, f_940, f_941, f_942, f_943, f_944, f_945, f_946, f_947⟩ := hAc938
           have ne_o17_o1_c938 : o17 ≠ o1_c938 := Nat.ne_of_lt (Nat.lt_of_lt_of_le V_294.lt zn_o1_c938)
           have ne_o206_o1_c938 : o206 ≠ o1_c938 := Nat.ne_of_lt (Nat.lt_of_lt_of_le V_298.lt zn_o1_c938)
           have sz_o1_c938 : h0.size ≤ o1_c938 := Nat.le_trans (K296).1 zn_o1_c938
           have V_948 := V_294.keep Kcc938 nin0
           have V_949 := V_298.keep Kcc938 nin0
           have O950 := O295.keep Kcc938 all0
           have K951 := Keep.trans K296 Kcc938 all0
           have p952 : ∀ t, St p e below Tc938 (mkF m 339 Ls930 [(.ref o1_c938)]) t → S0 t := fun t k => p931 t (stc938.trans k)
           let Ls953 : Array Slot := #[.val (.long j0), .second, .val (.long j1), .second, .val (.long j2), .second, .val (.int i3), .val (.int i4), .val (.long j5), .second, .val (.long w4), .second, .val (.ref o17), .val (.int (8 : Int32)), .val (.long w143), .second, .val (.ref o206), .val (.ref o1_c938), .unset, .unset, .unset]
           have p954 : ∀ t, St p e below Tc938 (mkF m 343 Ls953 [(.ref o206)]) t → S0 t := fun t k => p952 t (by
             refine XS.astore Xc938.here hx rfl (hb hby at_339) rfl rfl (l' := Ls953) rfl ?_
             refine XS.aload Xc938.here hx rfl (hb hby at_341) rfl rfl ?_
             exact k)
           obtain ⟨_, _, ⟨Tc955, Lc955, kc955, nc955⟩, -, Xrc955, hSrc955, hgrc955, ⟨Lcc955, hQc955, lc955, yc955, zc955⟩, stc955⟩ := callSS Xc938 hx (y := M2) hown (mvT hZ (ww hw 6 rfl)) (mvT hZ (ww hw 7 rfl)) (mvT hZ (ww hw 8 rfl)) (mvT hZ (ww hw 9 rfl)) (by decide) (backOfS (W := 0) (rm1_0 l Z a0 hw [] a_cache clC w25 w42 w4 w66 w82 w98 j0 w120 o206 k206 Tc938.heap n0 O950 HE' gb_o206 V_949 q932 q933 g6 g7 q934 q935 q936 q937 g102 g103 g124 g125) hZ (ww hw 9 rfl) (ww hw 8 rfl) (by decide) (by decide)) (g := (mkF m 343 Ls953 [(.ref o206)])) rfl (by rw [hml]; rfl) (argsL := [(.ref o206)]) (rest := []) (lenOf pd2 rfl) rfl (by show 2 * 0 + _ ≤ _; exact Nat.le_of_eq rfl) (hb hby at_343) (fun _ _ => ⟨rfl, rfl, (by decide : 15 + 13 ≤ _), (by decide : 236 + 220 ≤ _)⟩)
           dsimp only [Pt.U, Pt.locs, Pt.cells, Pt.slots] at Xrc955 hSrc955 hgrc955 lc955 yc955 zc955 stc955 hQc955
           subst lc955 yc955 zc955
           obtain ⟨Xc955, hSc955, hZ, hown⟩ := rebS hSc938 ((Nat.le_refl _)) Xrc955 hSrc955 hgrc955 hZ hown
           obtain ⟨Nqc955, hAc955⟩ := hQc955
           have Nc955 := Fr.app Nc938 Nqc955
           obtain ⟨o1_c955, rfl, Kcc955, gn_o1_c955, zn_o1_c955, f_956, f_957, f_958, f_959, f_960, f_961, f_962, f_963, f_964⟩ := hAc955
           have ne_o17_o1_c955 : o17 ≠ o1_c955 := Nat.ne_of_lt (Nat.lt_of_lt_of_le V_948.lt zn_o1_c955)
           have ne_o206_o1_c955 : o206 ≠ o1_c955 := Nat.ne_of_lt (Nat.lt_of_lt_of_le V_949.lt zn_o1_c955)
           have ne_o1_c938_o1_c955 : o1_c938 ≠ o1_c955 := Nat.ne_of_lt (Nat.lt_of_lt_of_le f_939.lt zn_o1_c955)
           have sz_o1_c955 : h0.size ≤ o1_c955 := Nat.le_trans (K951).1 zn_o1_c955
           have V_965 := V_948.keep Kcc955 nin0
           have V_966 := V_949.keep Kcc955 nin0
           have E_967 := f_939.keep Kcc955
           have F_968 := f_940.keep Kcc955 nin0
           have F_969 := f_941.keep Kcc955 nin0
           have F_970 := f_942.keep Kcc955 nin0
           have F_971 := f_943.keep Kcc955 nin0
           have F_972 := f_944.keep Kcc955 nin0
           have F_973 := f_945.keep Kcc955 nin0
           have F_974 := f_946.keep Kcc955 nin0
           have F_975 := f_947.keep Kcc955 nin0
           have O976 := O950.keep Kcc955 all0
           have K977 := Keep.trans K951 Kcc955 all0
           have p978 : ∀ t, St p e below Tc955 (mkF m 346 Ls953 [(.ref o1_c955)]) t → S0 t := fun t k => p954 t (stc955.trans k)
           let Ls979 : Array Slot := #[.val (.long j0), .second, .val (.long j1), .second, .val (.long j2), .second, .val (.int i3), .val (.int i4), .val (.long j5), .second, .val (.long w4), .second, .val (.ref o17), .val (.int (8 : Int32)), .val (.long w143), .second, .val (.ref o206), .val (.ref o1_c938), .val (.ref o1_c955), .unset, .unset]
           let Ls980 : Array Slot := #[.val (.long j0), .second, .val (.long j1), .second, .val (.long j2), .second, .val (.int i3), .val (.int i4), .val (.long j5), .second, .val (.long w4), .second, .val (.ref o17), .val (.int (8 : Int32)), .val (.long w143), .second, .val (.ref o206), .val (.ref o1_c938), .val (.ref o1_c955), .val (.int (1 : Int32)), .unset]
           have p981 : ∀ t, St p e below Tc955 (mkF m 373 Ls980 []) t → S0 t := fun t k => p978 t (by
             refine XS.astore Xc955.here hx rfl (hb hby at_346) rfl rfl (l' := Ls979) rfl ?_
             refine XS.iload Xc955.here hx rfl (hb hby at_348) rfl ?_
             refine XT.bipushV Xc955.here hx rfl (8 : Int32) (hb hby at_350) (by decide) ?_
             refine XS.icmpYes Xc955.here hx rfl (pc0 := 352) (pc' := 366) rfl (hb hby at_352) rfl (teq (by decide : (8 : Int32) = (8 : Int32))).1 (by decide) (by decide) ?_
             refine XT.iconstV Xc955.here hx rfl (1 : Int32) (hb hby at_366) (by decide) ?_
             show St p e below Tc955 (mkF m 367 Ls979 [(.int (1 : Int32))]) t
             refine XS.goto Xc955.here hx rfl (pc0 := 367) (pc' := 371) rfl (hb hby at_367) (by decide) (by decide) ?_
             refine XS.istore Xc955.here hx rfl (hb hby at_371) rfl (l' := Ls980) rfl ?_
             exact k)
           exact ⟨(8 : Int32), (1 : Int32), w25, w42, w4, w66, w82, w98, j0, w120, ((own_nz w25) &&& (1 : Int32)), (((w42.toInt32).toInt64).toInt32), (((w66.toInt32).toInt64).toInt32), (((w82.toInt32).toInt64).toInt32), o1_c938, o1_c955, Tc955, _, Tc955.heap, _, _, Xc955, rfl, Nc955, O976, K977, hSc955, (Nat.le_refl _), hZ, hown, gn_o1_c938, sz_o1_c938, gn_o1_c955, sz_o1_c955, ne_o17_o1_c938, ne_o17_o1_c955, ne_o206_o1_c938, ne_o206_o1_c955, ne_o1_c938_o1_c955, V_965, V_966, E_967, F_968, F_969, F_970, F_971, F_972, F_973, F_974, F_975, f_956, f_957, f_958, f_959, f_960, f_961, f_962, f_963, f_964, (own_eq8_1 rfl rfl rfl rfl rfl rfl rfl rfl), (own_eq8_1 rfl rfl rfl rfl rfl rfl rfl rfl), p981⟩
          ·
           exact (ar51 g138 g139 g340 g413 g488 g561 g636 g711 g784 g855 g928).elim
 let Ls982 : Array Slot := #[.val (.long j0), .second, .val (.long j1), .second, .val (.long j2), .second, .val (.int i3), .val (.int i4), .val (.long j5), .second, .val (.long w4), .second, .val (.ref o17), .val (.int w304), .val (.long w143), .second, .val (.ref o206), .val (.ref oj303_0), .val (.ref oj303_1), .val (.int w305), .unset]
 have p983 : ∀ t, St p e below Tj303 (mkF m 374 Ls982 [(.long j0)]) t → S0 t := fun t k => pj303 t (by
   refine XS.lloadN Xj303.here hx rfl (hb hby at_373) rfl ?_
   exact k)
 obtain ⟨_, _, ⟨Tc984, Lc984, kc984, nc984⟩, -, Xc984, ⟨Lcc984, hQc984, lc984, yc984, zc984⟩, stc984⟩ := Jvm.LawKit.callS Xj303 hx (y := M5) hown (mvT hZ (ww hw 54 rfl)) (mvT hZ (ww hw 55 rfl)) (mvT hZ (ww hw 56 rfl)) (mvT hZ (ww hw 57 rfl)) (by decide) (backOf (W := 0) (rm5_5 l Z a0 hw [] a_cache clC j0 Hj303 n0 Oj303 HE' ) hZ (ww hw 57 rfl) (ww hw 56 rfl) (by decide) (by decide)) (g := (mkF m 374 Ls982 [(.long j0)])) rfl (by rw [hml]; rfl) (argsL := [(.long j0)]) (rest := []) (lenOf pd5 rfl) rfl (by show 2 * 0 + _ ≤ _; exact Nat.le_of_eq rfl) (hb hby at_374) (fun _ _ => ⟨rfl, ej303, (by decide : 28 + 1 ≤ _), (by decide : 456 + 1 ≤ _)⟩)
 dsimp only [Pt.U, Pt.locs, Pt.cells, Pt.slots] at Xc984 lc984 yc984 zc984 stc984 hQc984
 subst lc984 yc984 zc984
 obtain ⟨Nqc984, hAc984⟩ := hQc984
 have Nc984 := Fr.app Nj303 Nqc984
 obtain ⟨o4_c984, rfl, Kcc984, f_985⟩ := hAc984
 have V_986 := V_306.keep Kcc984 nin0
 have V_987 := V_307.keep Kcc984 nin0
 have E_988 := E_316.keep Kcc984
 have F_989 := F_317.keep Kcc984 nin0
 have F_990 := F_318.keep Kcc984 nin0
 have F_991 := F_319.keep Kcc984 nin0
 have F_992 := F_320.keep Kcc984 nin0
 have F_993 := F_321.keep Kcc984 nin0
 have F_994 := F_322.keep Kcc984 nin0
 have F_995 := F_323.keep Kcc984 nin0
 have F_996 := F_324.keep Kcc984 nin0
 have E_997 := E_325.keep Kcc984
 have F_998 := F_326.keep Kcc984 nin0
 have F_999 := F_328.keep Kcc984 nin0
 have F_1000 := F_330.keep Kcc984 nin0
 have F_1001 := F_331.keep Kcc984 nin0
 have F_1002 := F_333.keep Kcc984 nin0
 have F_1003 := F_335.keep Kcc984 nin0
 have F_1004 := F_336.keep Kcc984 nin0
 have F_1005 := F_337.keep Kcc984 nin0
 have O1006 := Oj303.keep Kcc984 all0
 have K1007 := Keep.trans Kj303 Kcc984 all0
 have hk1008 := Nat.le_trans hkj303 Kcc984.1
 have p1009 : ∀ t, St p e below Tc984 (mkF m 377 Ls982 [(.ref o4_c984)]) t → S0 t := fun t k => p983 t (stc984 t k)
 let Ls1010 : Array Slot := #[.val (.long j0), .second, .val (.long j1), .second, .val (.long j2), .second, .val (.int i3), .val (.int i4), .val (.long j5), .second, .val (.long w4), .second, .val (.ref o17), .val (.int w304), .val (.long w143), .second, .val (.ref o206), .val (.ref oj303_0), .val (.ref oj303_1), .val (.int w305), .val (.ref o4_c984)]
 have p1011 : ∀ t, St p e below Tc984 (mkF m 383 Ls1010 [(.ref oj303_1), (.ref oj303_0)]) t → S0 t := fun t k => p1009 t (by
   refine XS.astore Xc984.here hx rfl (hb hby at_377) rfl rfl (l' := Ls1010) rfl ?_
   refine XS.aload Xc984.here hx rfl (hb hby at_379) rfl rfl ?_
   refine XS.aload Xc984.here hx rfl (hb hby at_381) rfl rfl ?_
   exact k)
 obtain ⟨cqc1012, kqc1012, qc1012a, qc1012b, qc1012c⟩ := isOf hZ rfl E_988
 obtain ⟨_, _, ⟨Tc1012, Lc1012, kc1012, nc1012⟩, -, Xc1012, ⟨Lcc1012, hQc1012, lc1012, yc1012, zc1012⟩, stc1012⟩ := Xc984.virtualBack hx (y := M6) (z := M6) hown (mvT hZ (ww hw 62 rfl)) (mvT hZ (ww hw 63 rfl)) (notFace_of_selects (args := #[]) (mvT hZ (ww hw 65 rfl))) (mvT hZ (ww hw 65 rfl)) (mvT hZ (ww hw 64 rfl)) (by decide) (backOf (W := 0) (rm6_8 l Z a0 hw [] a_cache clC ((own_nz w25) &&& (1 : Int32)) (((w42.toInt32).toInt64).toInt32) w4 (((w66.toInt32).toInt64).toInt32) (((w82.toInt32).toInt64).toInt32) w98 j0 w120 w327 w329 w310 w332 w334 w313 w314 w315 oj303_0 oj303_1 Tc984.heap n0 O1006 HE' gb_oj303_0 gb_oj303_1 ne_oj303_0_oj303_1 E_988 F_989 F_990 F_991 F_992 F_993 F_994 F_995 F_996 E_997 F_998 F_999 F_1000 F_1001 F_1002 F_1003 F_1004 F_1005) hZ (ww hw 66 rfl) (ww hw 12 rfl) (by decide) (by decide)) qc1012a qc1012c (g := (mkF m 383 Ls1010 [(.ref oj303_1), (.ref oj303_0)])) rfl (by rw [hml]; rfl) (Steps.refl _) (argsL := [(.ref oj303_1)]) (rest := []) (lenOf pd6 rfl) rfl (by show 2 * 0 + _ ≤ _; exact Nat.le_of_eq rfl) (hb hby at_383) (fun _ _ => ⟨rfl, rfl, (by decide : 29 + 0 ≤ _), (by decide : 457 + 0 ≤ _)⟩)
 dsimp only [Pt.U, Pt.locs, Pt.cells, Pt.slots] at Xc1012 lc1012 yc1012 zc1012 stc1012 hQc1012
 subst lc1012 yc1012 zc1012
 obtain ⟨Nqc1012, ec1012, hAc1012⟩ := hQc1012
 have Nc1012 := Fr.app Nc984 Nqc1012
 obtain rfl := hAc1012
 have p1013 : ∀ t, St p e below Tc1012 (mkF m 386 Ls1010 [(.int (own_eq8 ((own_nz w25) &&& (1 : Int32)) (((w42.toInt32).toInt64).toInt32) w4 (((w66.toInt32).toInt64).toInt32) (((w82.toInt32).toInt64).toInt32) w98 j0 w120 w327 w329 w310 w332 w334 w313 w314 w315))]) t → S0 t := fun t k => p1011 t (stc1012.trans k)
 have p1014 : ∀ t, St p e below Tc1012 (mkF m 395 Ls1010 [(.ref oj303_0), (.ref oj303_1)]) t → S0 t := fun t k => p1013 t (by
   refine XS.iload Xc1012.here hx rfl (hb hby at_386) rfl ?_
   refine XS.icmpNo Xc1012.here hx rfl (hb hby at_388) rfl (teq g338).2 ?_
   refine XS.aload Xc1012.here hx rfl (hb hby at_391) rfl rfl ?_
   refine XS.aload Xc1012.here hx rfl (hb hby at_393) rfl rfl ?_
   exact k)
 obtain ⟨cqc1015, kqc1015, qc1015a, qc1015b, qc1015c⟩ := isOf hZ ec1012 E_997
 obtain ⟨_, _, ⟨Tc1015, Lc1015, kc1015, nc1015⟩, -, Xc1015, ⟨Lcc1015, hQc1015, lc1015, yc1015, zc1015⟩, stc1015⟩ := Xc1012.virtualBack hx (y := M6) (z := M6) hown (mvT hZ (ww hw 62 rfl)) (mvT hZ (ww hw 63 rfl)) (notFace_of_selects (args := #[]) (mvT hZ (ww hw 65 rfl))) (mvT hZ (ww hw 65 rfl)) (mvT hZ (ww hw 64 rfl)) (by decide) (backOf (W := 0) (rm6_8 l Z a0 hw [] a_cache clC w327 w329 w310 w332 w334 w313 w314 w315 ((own_nz w25) &&& (1 : Int32)) (((w42.toInt32).toInt64).toInt32) w4 (((w66.toInt32).toInt64).toInt32) (((w82.toInt32).toInt64).toInt32) w98 j0 w120 oj303_1 oj303_0 Tc984.heap n0 O1006 HE' gb_oj303_1 gb_oj303_0 (Ne.symm ne_oj303_0_oj303_1) E_997 F_998 F_999 F_1000 F_1001 F_1002 F_1003 F_1004 F_1005 E_988 F_989 F_990 F_991 F_992 F_993 F_994 F_995 F_996) hZ (ww hw 66 rfl) (ww hw 12 rfl) (by decide) (by decide)) qc1015a qc1015c (g := (mkF m 395 Ls1010 [(.ref oj303_0), (.ref oj303_1)])) rfl (by rw [hml]; rfl) (Steps.refl _) (argsL := [(.ref oj303_0)]) (rest := []) (lenOf pd6 rfl) rfl (by show 2 * 0 + _ ≤ _; exact Nat.le_of_eq rfl) (hb hby at_395) (fun _ _ => ⟨rfl, ec1012, (by decide : 29 + 0 ≤ _), (by decide : 457 + 0 ≤ _)⟩)
 dsimp only [Pt.U, Pt.locs, Pt.cells, Pt.slots] at Xc1015 lc1015 yc1015 zc1015 stc1015 hQc1015
 subst lc1015 yc1015 zc1015
 obtain ⟨Nqc1015, ec1015, hAc1015⟩ := hQc1015
 have Nc1015 := Fr.app Nc1012 Nqc1015
 obtain rfl := hAc1015
 have p1016 : ∀ t, St p e below Tc1015 (mkF m 398 Ls1010 [(.int (own_eq8 w327 w329 w310 w332 w334 w313 w314 w315 ((own_nz w25) &&& (1 : Int32)) (((w42.toInt32).toInt64).toInt32) w4 (((w66.toInt32).toInt64).toInt32) (((w82.toInt32).toInt64).toInt32) w98 j0 w120))]) t → S0 t := fun t k => p1014 t (stc1015.trans k)
 have p1017 : ∀ t, St p e below Tc1015 (mkF m 407 Ls1010 [(.ref oj303_0), (.ref oj303_0)]) t → S0 t := fun t k => p1016 t (by
   refine XS.iload Xc1015.here hx rfl (hb hby at_398) rfl ?_
   refine XS.icmpNo Xc1015.here hx rfl (hb hby at_400) rfl (teq g339).2 ?_
   refine XS.aload Xc1015.here hx rfl (hb hby at_403) rfl rfl ?_
   refine XS.aload Xc1015.here hx rfl (hb hby at_405) rfl rfl ?_
   exact k)
 obtain ⟨cqc1018, kqc1018, qc1018a, qc1018b, qc1018c⟩ := isOf hZ ec1015 E_988
 obtain ⟨_, _, ⟨Tc1018, Lc1018, kc1018, nc1018⟩, -, Xc1018, ⟨Lcc1018, hQc1018, lc1018, yc1018, zc1018⟩, stc1018⟩ := Xc1015.virtualBack hx (y := M6) (z := M6) hown (mvT hZ (ww hw 62 rfl)) (mvT hZ (ww hw 63 rfl)) (notFace_of_selects (args := #[]) (mvT hZ (ww hw 65 rfl))) (mvT hZ (ww hw 65 rfl)) (mvT hZ (ww hw 64 rfl)) (by decide) (backOf (W := 0) (rm6_9 l Z a0 hw [] a_cache clC ((own_nz w25) &&& (1 : Int32)) (((w42.toInt32).toInt64).toInt32) w4 (((w66.toInt32).toInt64).toInt32) (((w82.toInt32).toInt64).toInt32) w98 j0 w120 oj303_0 Tc984.heap n0 O1006 HE' gb_oj303_0 E_988 F_989 F_990 F_991 F_992 F_993 F_994 F_995 F_996) hZ (ww hw 66 rfl) (ww hw 12 rfl) (by decide) (by decide)) qc1018a qc1018c (g := (mkF m 407 Ls1010 [(.ref oj303_0), (.ref oj303_0)])) rfl (by rw [hml]; rfl) (Steps.refl _) (argsL := [(.ref oj303_0)]) (rest := []) (lenOf pd6 rfl) rfl (by show 2 * 0 + _ ≤ _; exact Nat.le_of_eq rfl) (hb hby at_407) (fun _ _ => ⟨rfl, ec1015, (by decide : 29 + 0 ≤ _), (by decide : 457 + 0 ≤ _)⟩)
 dsimp only [Pt.U, Pt.locs, Pt.cells, Pt.slots] at Xc1018 lc1018 yc1018 zc1018 stc1018 hQc1018
 subst lc1018 yc1018 zc1018
 obtain ⟨Nqc1018, ec1018, hAc1018⟩ := hQc1018
 have Nc1018 := Fr.app Nc1015 Nqc1018
 obtain rfl := hAc1018
 have p1019 : ∀ t, St p e below Tc1018 (mkF m 410 Ls1010 [(.int (1 : Int32))]) t → S0 t := fun t k => p1017 t (stc1018.trans k)
 have p1020 : ∀ t, St p e below Tc1018 (mkF m 416 Ls1010 [.null, (.ref oj303_0)]) t → S0 t := fun t k => p1019 t (by
   refine XS.ifNo Xc1018.here hx rfl (hb hby at_410) rfl ((if0 _ _).trans (feq (by decide : ¬ ((1 : Int32) = (0 : Int32)))).1) ?_
   refine XS.aload Xc1018.here hx rfl (hb hby at_413) rfl rfl ?_
   refine XS.aconstNull Xc1018.here hx rfl (hb hby at_415) ?_
   exact k)
 obtain ⟨cqc1021, kqc1021, qc1021a, qc1021b, qc1021c⟩ := isOf hZ ec1018 E_988
 obtain ⟨_, _, ⟨Tc1021, Lc1021, kc1021, nc1021⟩, -, Xc1021, ⟨Lcc1021, hQc1021, lc1021, yc1021, zc1021⟩, stc1021⟩ := Xc1018.virtualBack hx (y := M6) (z := M6) hown (mvT hZ (ww hw 62 rfl)) (mvT hZ (ww hw 63 rfl)) (notFace_of_selects (args := #[]) (mvT hZ (ww hw 65 rfl))) (mvT hZ (ww hw 65 rfl)) (mvT hZ (ww hw 64 rfl)) (by decide) (backOf (W := 0) (rm6_10 l Z a0 hw [] a_cache clC ((own_nz w25) &&& (1 : Int32)) (((w42.toInt32).toInt64).toInt32) w4 (((w66.toInt32).toInt64).toInt32) (((w82.toInt32).toInt64).toInt32) w98 j0 w120 oj303_0 Tc984.heap n0 O1006 HE' gb_oj303_0 E_988 F_989 F_990 F_991 F_992 F_993 F_994 F_995 F_996) hZ (ww hw 66 rfl) (ww hw 12 rfl) (by decide) (by decide)) qc1021a qc1021c (g := (mkF m 416 Ls1010 [.null, (.ref oj303_0)])) rfl (by rw [hml]; rfl) (Steps.refl _) (argsL := [.null]) (rest := []) (lenOf pd6 rfl) rfl (by show 2 * 0 + _ ≤ _; exact Nat.le_of_eq rfl) (hb hby at_416) (fun _ _ => ⟨rfl, ec1018, (by decide : 29 + 0 ≤ _), (by decide : 457 + 0 ≤ _)⟩)
 dsimp only [Pt.U, Pt.locs, Pt.cells, Pt.slots] at Xc1021 lc1021 yc1021 zc1021 stc1021 hQc1021
 subst lc1021 yc1021 zc1021
 obtain ⟨Nqc1021, ec1021, hAc1021⟩ := hQc1021
 have Nc1021 := Fr.app Nc1018 Nqc1021
 obtain rfl := hAc1021
 have p1022 : ∀ t, St p e below Tc1021 (mkF m 419 Ls1010 [(.int (0 : Int32))]) t → S0 t := fun t k => p1020 t (stc1021.trans k)
 have p1023 : ∀ t, St p e below Tc1021 (mkF m 426 Ls1010 [(.ref o4_c984), (.ref oj303_0)]) t → S0 t := fun t k => p1022 t (by
   refine XS.ifNo Xc1021.here hx rfl (hb hby at_419) rfl ((if0 _ _).trans (teq (by decide : (0 : Int32) = (0 : Int32))).2) ?_
   refine XS.aload Xc1021.here hx rfl (hb hby at_422) rfl rfl ?_
   refine XS.aload Xc1021.here hx rfl (hb hby at_424) rfl rfl ?_
   exact k)
 obtain ⟨cqc1024, kqc1024, qc1024a, qc1024b, qc1024c⟩ := isOf hZ ec1021 E_988
 obtain ⟨_, _, ⟨Tc1024, Lc1024, kc1024, nc1024⟩, -, Xc1024, ⟨Lcc1024, hQc1024, lc1024, yc1024, zc1024⟩, stc1024⟩ := Xc1021.virtualBack hx (y := M6) (z := M6) hown (mvT hZ (ww hw 62 rfl)) (mvT hZ (ww hw 63 rfl)) (notFace_of_selects (args := #[]) (mvT hZ (ww hw 65 rfl))) (mvT hZ (ww hw 65 rfl)) (mvT hZ (ww hw 64 rfl)) (by decide) (backOf (W := 0) (rm6_11 l Z a0 hw [] a_cache clC ((own_nz w25) &&& (1 : Int32)) (((w42.toInt32).toInt64).toInt32) w4 (((w66.toInt32).toInt64).toInt32) (((w82.toInt32).toInt64).toInt32) w98 j0 w120 oj303_0 o4_c984 Tc984.heap n0 O1006 HE' gb_oj303_0 (ne_exa E_988 f_985 (by decide)) E_988 F_989 F_990 F_991 F_992 F_993 F_994 F_995 F_996 f_985) hZ (ww hw 66 rfl) (ww hw 12 rfl) (by decide) (by decide)) qc1024a qc1024c (g := (mkF m 426 Ls1010 [(.ref o4_c984), (.ref oj303_0)])) rfl (by rw [hml]; rfl) (Steps.refl _) (argsL := [(.ref o4_c984)]) (rest := []) (lenOf pd6 rfl) rfl (by show 2 * 0 + _ ≤ _; exact Nat.le_of_eq rfl) (hb hby at_426) (fun _ _ => ⟨rfl, ec1021, (by decide : 29 + 0 ≤ _), (by decide : 457 + 0 ≤ _)⟩)
 dsimp only [Pt.U, Pt.locs, Pt.cells, Pt.slots] at Xc1024 lc1024 yc1024 zc1024 stc1024 hQc1024
 subst lc1024 yc1024 zc1024
 obtain ⟨Nqc1024, ec1024, hAc1024⟩ := hQc1024
 have Nc1024 := Fr.app Nc1021 Nqc1024
 obtain rfl := hAc1024
 have p1025 : ∀ t, St p e below Tc1024 (mkF m 429 Ls1010 [(.int (0 : Int32))]) t → S0 t := fun t k => p1023 t (stc1024.trans k)
 have p1026 : ∀ t, St p e below Tc1024 (mkF m 437 Ls1010 [(.int (1 : Int32))]) t → S0 t := fun t k => p1025 t (by
   refine XS.ifNo Xc1024.here hx rfl (hb hby at_429) rfl ((if0 _ _).trans (teq (by decide : (0 : Int32) = (0 : Int32))).2) ?_
   refine XT.iconstV Xc1024.here hx rfl (1 : Int32) (hb hby at_432) (by decide) ?_
   refine XS.goto Xc1024.here hx rfl (pc0 := 433) (pc' := 437) rfl (hb hby at_433) (by decide) (by decide) ?_
   exact k)
 obtain ⟨fs, hr, hrun, hended, hE1, hE2, hE3, hE4⟩ := Xc1024.leaveW hSj303 (by rw [ec1024]; exact hk1008) (v := some (.int (1 : Int32))) (fun h => by rw [Bd.returns] at h; cases h)
 refine ⟨_, _, p1026 _ ?_, hrun, hended, _, _, rfl, ?_, hE1, hE2, hE3, hE4.mono (by decide) (by decide)⟩
 · exact retOut Xc1024 hx Bd.returns rfl (Or.inl ⟨rfl, by simp, _, rfl⟩) (hb hby at_437) hr
 · exact ⟨rfl, Nc1024⟩
set_option maxRecDepth 65536 in
set_option maxHeartbeats 40000000 in
theorem comes_1 {Post : Tables → Env → Array Value → State → Outcome → State → Prop} (hpost : ∀ tb e args s v u, (limb_1_1.after args s (.returned v) u = true ∧ limb_1_2.after args s (.returned v) u = true ∧ True) → ReturnedEndW s (.returned v) u (Jvm.fieldLocs frame_1_writes args s ++ Jvm.arrayLocs frame_1_arrays args s ++ Jvm.staticLocs frame_1_statics s) 32 6336 → Post tb e args s (.returned v) u) :
    ArmFor flags0 classFile x code maxLocals ret World_1 tables_1 room_1 Calls_1 rest_1 Pre_1 Post := by
  intro l hfl _ _ p e ha hc hk s m args below hf hA hF happ hP
  obtain ⟨hcalls, hrest, hpre⟩ := hP
  obtain ⟨-, -, -, hnamed, -, -, -, hat⟩ := (Spec.applies_iff hf).mp happ
  obtain ⟨hg, hn⟩ := and_e (Cond.before_iff.mp (show (Jvm.Cond.and given_1 narrow_1).before args s = true from hpre))
  obtain ⟨hj1a, hj1b⟩ := and_e hg
  obtain ⟨hj2a, hj2b⟩ := and_e hj1b
  obtain ⟨hj3a, hj3b⟩ := and_e hj2b
  obtain ⟨hj4a, hj4b⟩ := and_e hj3b
  obtain ⟨hj5a, hj5b⟩ := and_e hj4b
  obtain ⟨hj6a, hj6b⟩ := and_e hj5b
  obtain ⟨w0, w1, w2, w3, w4, w5, rfl⟩ : ∃ w0 w1 w2 w3 w4 w5 : Value, args = #[w0, w1, w2, w3, w4, w5] := by
    have hs : args.size = 6 := by simpa [Cond.value, given_1] using hj1a
    obtain ⟨L⟩ := args
    match L, hs with
    | [w0, w1, w2, w3, w4, w5], _ => exact ⟨w0, w1, w2, w3, w4, w5, rfl⟩
  have hw := fun d (hd : d ∈ tables_1) => atoms_spec (ws := Jvm.Cond.code x code maxLocals ret :: tables_1) hat d (List.mem_cons_of_mem _ hd)
  have hfit : Fit s := fun {y c} hc i hi => by
    obtain ⟨ha, rfl⟩ := Array.getElem?_eq_some_iff.mp hc
    have q := List.all_eq_true.mp ((Array.all_eq_true_iff_forall_mem.mp hF) _ (Array.getElem_mem ha)) i (List.mem_range.mpr hi)
    simpa [Array.getElem?_eq_getElem hi] using q
  obtain ⟨hsets, hown0⟩ := atoms_of _ (rest_1_c_eq ▸ (show rest_1_c.before _ s = true from hrest))
  obtain ⟨j0, ei0⟩ := isL_v hj2a
  obtain rfl : w0 = (.long j0) := Option.some.inj ei0
  obtain ⟨j1, ei1⟩ := isL_v hj3a
  obtain rfl : w1 = (.long j1) := Option.some.inj ei1
  obtain ⟨j2, ei2⟩ := isL_v hj4a
  obtain rfl : w2 = (.long j2) := Option.some.inj ei2
  obtain ⟨i3, ei3⟩ := is_v hj5a
  obtain rfl : w3 = (.int i3) := Option.some.inj ei3
  obtain ⟨i4, ei4⟩ := is_v hj6a
  obtain rfl : w4 = (.int i4) := Option.some.inj ei4
  obtain ⟨j5, ei5⟩ := isL_v hj6b
  obtain rfl : w5 = (.long j5) := Option.some.inj ei5
  obtain ⟨a_cache, evc⟩ := arr_v (Cond.before_iff.mp (hsets _ (List.mem_of_getElem? (i := 2) rfl)))
  have hSc : Sta s s.heap "java/lang/Long$LongCache" "cache" "[Ljava/lang/Long;" (.ref a_cache) := Sta.start evc (Or.inl (hsets _ (List.mem_of_getElem? (i := 1) rfl)))
  obtain ⟨clC, hAc⟩ := Arr.start evc (Cond.before_iff.mp (hsets _ (List.mem_of_getElem? (i := 2) rfl)))
  obtain ⟨hq31, hlen⟩ := own_len evc hAc (own_eqI (Cond.before_iff.mp (hsets _ (List.mem_of_getElem? (i := 4) rfl))))
  have hZc : clC.slots.size = (256 : Int32).toNatClampNeg := by rw [← hlen]; simp only [Int32.toNatClampNeg, len_toInt hq31]; rfl
  have hevc : ∀ idx, (Jvm.Term.static "java/lang/Long$LongCache" "cache" "[Ljava/lang/Long;").eval #[.long j0, .long j1, .long j2, .int i3, .int i4, .long j5] s none idx s = some (.ref a_cache) := fun idx => evc
  have hTc : ∀ j : Int32, ¬ (j < (0 : Int32)) → j < (256 : Int32) → ∃ b : Addr, clC.slots[j.toNatClampNeg]? = some (.ref b) ∧ Exa s s.heap b "java/lang/Long" := fun j n q => by
    obtain ⟨u1, -⟩ := and_e (Cond.all_elim evc (hAc.fin (Vm.Alike.refl _)) (Cond.before_iff.mp (hsets _ (List.mem_of_getElem? (i := 5) rfl))) j.toNatClampNeg (Nat.lt_of_not_le fun z => inb_of hZc ⟨n, q⟩ (Or.inr z)))
    obtain ⟨b, eb⟩ := exa_v u1
    exact ⟨b, (elem_f (t := (Jvm.Term.static "java/lang/Long$LongCache" "cache" "[Ljava/lang/Long;")) (hevc _) (idx_at n) (hAc.fin (Vm.Alike.refl _)) n).symm.trans eb, exa_at eb u1⟩
  obtain ⟨n, o, h1, h2, h3, _, L, rfl, ⟨rfl, N⟩, hq⟩ := rm0 l s _ hw tables_1 a_cache _ j0 j1 j2 i3 i4 j5 s.heap s.heap.size (Old.start s) ⟨hSc, hAc, hZc, hTc⟩ p e ha hc hk s m _ below hf ((Spec.applies_iff_loose hf).mp happ).1 ⟨rfl, State.Warmed39.refl s, rfl⟩ trivial
  refine ⟨n, _, h1, h2, h3, hpost _ _ _ _ _ _ ⟨Cond.after_iff.mpr rfl, Cond.after_iff.mpr (eq_i res_at (Term.int_eval (1)) rfl), trivial⟩ ⟨hq.1, hq.2.1, hq.2.2.1, (hq.2.2.2.sift fun y hy => Or.inr (N y hy)).mono (by decide) (by decide)⟩⟩
theorem main_1_1 : Claimed_1_1 := comes_1 fun _ _ _ _ _ _ h hF => ⟨h.1, hF⟩
theorem main_1_2 : Claimed_1_2 := comes_1 fun _ _ _ _ _ _ h hF => ⟨h.2.1, hF⟩
end Jvm.Pilot.@@N@@
namespace Jvm.Pilot.@@N@@
open Jvm Jvm.ClassFile Sem Op Lib Jvm.Free Jvm.Stand Jvm.Pilot.@@N@@.Jvm.D
/-! MADE BY PROGRAM (witnessworld.py) out of the Statement's table words and the real class files: 21 classes; the members and pool entries that the words name. The judged class is class 1, her method 2. -/
namespace start1
open Jvm.ClassFile
def u (s : String) : CpInfo := .utf8 (stringToUtf16 s)
/-- a pool by its gaps: so many unusable entries, then the entry; so many at the end -/
def gap : Nat → List CpInfo → List CpInfo
  | 0, r => r
  | n + 1, r => .unusable :: gap n r
def poolList (es : List (Nat × CpInfo)) (last : Nat) : List CpInfo := es.foldr (fun e r => gap e.1 (e.2 :: r)) (gap last [])
def pool (es : List (Nat × CpInfo)) (last : Nat) : Array CpInfo := ⟨poolList es last⟩
def fileOf (pool : Array CpInfo) (this : Nat) (attrs : Array Attribute := #[]) (ms : Array MethodInfo := #[]) (fl : Nat := 33) (sup : Nat := 0) (ifs : Array Nat := #[]) (fds : Array FieldInfo := #[]) : ClassFile where
  minorVersion := 0
  majorVersion := 65
  constantPool := pool
  accessFlags := fl
  thisClass := this
  superClass := sup
  interfaces := ifs
  fields := fds
  methods := ms
  attributes := attrs
def plain (name : String) (sup : Option ClassId) : Class where
  name := name
  kind := .ordinary
  loader := none
  accessFlags := 33
  super := sup
  interfaces := #[]
  cf := none
  fields := #[]
  methods := #[]
  instanceTypes := #[]
  staticTypes := #[]
  resolved := #[]
  callSites := []
  init := .initialized
  statics := none
  mirror := none

def pool0 : Array CpInfo := pool [(5, u "<init>"), (0, u "()V"), (1, .class_ 10), (1, u "java/lang/Object")] 113

def k0c0 : Code := { maxStack := 0, maxLocals := 1, code := object_method_1_code, exceptionTable := #[], attributes := #[] }
def k0m0 : Method := { name := "<init>", desc := "()V", sig := { parameters := [], returnType := none }, accessFlags := 1, code := some k0c0 }
/-- java/lang/Object -/
def k0 : Class := { plain "java/lang/Object" none with
  accessFlags := 33
  interfaces := #[]
  cf := some (fileOf pool0 8 #[] #[{ accessFlags := 1, nameIndex := 5, descriptorIndex := 6, attributes := #[] }] 33 0 #[] #[])
  fields := #[]
  methods := #[k0m0]
  instanceTypes := #[]
  staticTypes := #[]
  resolved := Array.replicate 124 none
  statics := none }

def pool1 : Array CpInfo := pool [(2, .class_ 4), (1, u "java/lang/Object"), (0, u "<init>"), (0, u "()V"), (0, .class_ 8), (0, u "com/example/vacant_throne/vacantthrone/core/Heartbeat"), (0, .methodref 7 10), (0, .nameAndType 5 11), (0, u "(ZIJIIJJJ)V"), (0, .long 4294967295), (1, .integer 65536), (0, .integer 65535), (0, .long 65535), (1, .integer 2147483647), (0, .methodref 20 21), (0, .class_ 22), (0, .nameAndType 23 24), (0, u "com/example/vacant_throne/vacantthrone/core/HeartbeatEqualsPinLaw"), (0, u "make"), (0, u "([J)Lcom/example/vacant_throne/vacantthrone/core/Heartbeat;"), (0, .methodref 26 27), (0, .class_ 28), (0, .nameAndType 29 30), (0, u "java/lang/Long"), (0, u "valueOf"), (0, u "(J)Ljava/lang/Long;"), (0, .methodref 7 32), (0, .nameAndType 33 34), (0, u "equals"), (0, u "(Ljava/lang/Object;)Z"), (5, u "law"), (0, u "(JJJIIJ)Z")] 2

def k1m0 : Method := { name := "<init>", desc := "()V", sig := { parameters := [], returnType := none }, accessFlags := 1, code := none }
def k1c1 : Code := { maxStack := 14, maxLocals := 1, code := method_2_code, exceptionTable := #[], attributes := #[] }
def k1m1 : Method := { name := "make", desc := "([J)Lcom/example/vacant_throne/vacantthrone/core/Heartbeat;", sig := { parameters := [(.array .long)], returnType := some (.object "com/example/vacant_throne/vacantthrone/core/Heartbeat") }, accessFlags := 10, code := some k1c1 }
def k1c2 : Code := { maxStack := 6, maxLocals := 21, code := code, exceptionTable := #[], attributes := #[] }
def k1m2 : Method := { name := "law", desc := "(JJJIIJ)Z", sig := { parameters := [.long, .long, .long, .int, .int, .long], returnType := some .boolean }, accessFlags := 9, code := some k1c2 }
/-- com/example/vacant_throne/vacantthrone/core/HeartbeatEqualsPinLaw -/
def k1 : Class := { plain "com/example/vacant_throne/vacantthrone/core/HeartbeatEqualsPinLaw" (some 0) with
  accessFlags := 49
  interfaces := #[]
  cf := some (fileOf pool1 20 #[] #[{ accessFlags := 1, nameIndex := 5, descriptorIndex := 6, attributes := #[] }, { accessFlags := 10, nameIndex := 23, descriptorIndex := 24, attributes := #[] }, { accessFlags := 9, nameIndex := 40, descriptorIndex := 41, attributes := #[] }] 49 2 #[] #[])
  fields := #[]
  methods := #[k1m0, k1m1, k1m2]
  instanceTypes := #[]
  staticTypes := #[]
  resolved := Array.replicate 44 none
  statics := none }

def pool2 : Array CpInfo := pool [(1, .methodref 2 3), (0, .class_ 4), (0, .nameAndType 5 6), (0, u "java/lang/Object"), (0, u "<init>"), (0, u "()V"), (0, .fieldref 8 9), (0, .class_ 10), (0, .nameAndType 11 12), (0, u "com/example/vacant_throne/vacantthrone/core/Heartbeat"), (0, u "reveal"), (0, u "Z"), (0, .string 14), (0, u "set"), (0, .class_ 16), (0, u "com/example/vacant_throne/vacantthrone/core/Ranges"), (0, .long 65535), (1, .methodref 15 20), (0, .nameAndType 21 22), (0, u "require"), (0, u "(Ljava/lang/String;JJJ)J"), (0, .fieldref 8 24), (0, .nameAndType 14 25), (0, u "I"), (0, .string 27), (0, u "sender"), (0, .long 4294967295), (1, .fieldref 8 31), (0, .nameAndType 27 32), (0, u "J"), (0, .string 34), (0, u "priority"), (0, .fieldref 8 36), (0, .nameAndType 34 25), (0, .string 38), (0, u "periodMs"), (0, .fieldref 8 40), (0, .nameAndType 38 25), (0, .string 42), (0, u "handOverTarget"), (0, .fieldref 8 44), (0, .nameAndType 42 32), (0, .fieldref 8 46), (0, .nameAndType 47 32), (0, u "incarnation"), (0, .string 49), (0, u "sequence"), (0, .fieldref 8 51), (0, .nameAndType 49 32), (61, u "(ZIJIIJJJ)V"), (55, u "LENGTH"), (2, u "VERSION"), (1, u "NO_TARGET"), (2, u "MAGIC"), (0, u "REVEAL_FLAG"), (17, u "equals"), (0, u "(Ljava/lang/Object;)Z")] 20

def k2c0 : Code := { maxStack := 8, maxLocals := 13, code := prog_8_method_1_code, exceptionTable := #[], attributes := #[] }
def k2m0 : Method := { name := "<init>", desc := "(ZIJIIJJJ)V", sig := { parameters := [.boolean, .int, .long, .int, .int, .long, .long, .long], returnType := none }, accessFlags := 1, code := some k2c0 }
def k2c1 : Code := { maxStack := 4, maxLocals := 3, code := prog_8_method_12_code, exceptionTable := #[], attributes := #[] }
def k2m1 : Method := { name := "equals", desc := "(Ljava/lang/Object;)Z", sig := { parameters := [(.object "java/lang/Object")], returnType := some .boolean }, accessFlags := 1, code := some k2c1 }
/-- com/example/vacant_throne/vacantthrone/core/Heartbeat -/
def k2 : Class := { plain "com/example/vacant_throne/vacantthrone/core/Heartbeat" (some 0) with
  accessFlags := 49
  interfaces := #[]
  cf := some (fileOf pool2 8 #[] #[{ accessFlags := 1, nameIndex := 5, descriptorIndex := 113, attributes := #[] }, { accessFlags := 1, nameIndex := 196, descriptorIndex := 197, attributes := #[] }] 49 2 #[] #[{ accessFlags := 25, nameIndex := 169, descriptorIndex := 25, attributes := #[] }, { accessFlags := 25, nameIndex := 172, descriptorIndex := 25, attributes := #[] }, { accessFlags := 25, nameIndex := 174, descriptorIndex := 32, attributes := #[] }, { accessFlags := 26, nameIndex := 177, descriptorIndex := 25, attributes := #[] }, { accessFlags := 26, nameIndex := 178, descriptorIndex := 25, attributes := #[] }, { accessFlags := 18, nameIndex := 11, descriptorIndex := 12, attributes := #[] }, { accessFlags := 18, nameIndex := 14, descriptorIndex := 25, attributes := #[] }, { accessFlags := 18, nameIndex := 27, descriptorIndex := 32, attributes := #[] }, { accessFlags := 18, nameIndex := 34, descriptorIndex := 25, attributes := #[] }, { accessFlags := 18, nameIndex := 38, descriptorIndex := 25, attributes := #[] }, { accessFlags := 18, nameIndex := 42, descriptorIndex := 32, attributes := #[] }, { accessFlags := 18, nameIndex := 47, descriptorIndex := 32, attributes := #[] }, { accessFlags := 18, nameIndex := 49, descriptorIndex := 32, attributes := #[] }])
  fields := #[{ name := "LENGTH", type := .int, accessFlags := 25, slot := 0, constantValue := 0 }, { name := "VERSION", type := .int, accessFlags := 25, slot := 1, constantValue := 0 }, { name := "NO_TARGET", type := .long, accessFlags := 25, slot := 2, constantValue := 0 }, { name := "MAGIC", type := .int, accessFlags := 26, slot := 3, constantValue := 0 }, { name := "REVEAL_FLAG", type := .int, accessFlags := 26, slot := 4, constantValue := 0 }, { name := "reveal", type := .boolean, accessFlags := 18, slot := 0, constantValue := 0 }, { name := "set", type := .int, accessFlags := 18, slot := 1, constantValue := 0 }, { name := "sender", type := .long, accessFlags := 18, slot := 2, constantValue := 0 }, { name := "priority", type := .int, accessFlags := 18, slot := 3, constantValue := 0 }, { name := "periodMs", type := .int, accessFlags := 18, slot := 4, constantValue := 0 }, { name := "handOverTarget", type := .long, accessFlags := 18, slot := 5, constantValue := 0 }, { name := "incarnation", type := .long, accessFlags := 18, slot := 6, constantValue := 0 }, { name := "sequence", type := .long, accessFlags := 18, slot := 7, constantValue := 0 }]
  methods := #[k2m0, k2m1]
  instanceTypes := #[.boolean, .int, .long, .int, .int, .long, .long, .long]
  staticTypes := #[.int, .int, .long, .int, .int]
  resolved := Array.replicate 218 none
  statics := none }

def pool3 : Array CpInfo := pool [(1, .class_ 2), (0, u "java/io/Serializable"), (0, .class_ 4), (0, u "java/lang/Object")] 2

/-- java/io/Serializable -/
def k3 : Class := { plain "java/io/Serializable" (some 0) with
  accessFlags := 1537
  interfaces := #[]
  cf := some (fileOf pool3 1 #[] #[] 1537 3 #[] #[])
  fields := #[]
  methods := #[]
  instanceTypes := #[]
  staticTypes := #[]
  resolved := Array.replicate 7 none
  statics := none }

def pool4 : Array CpInfo := pool [(1, .class_ 2), (0, u "java/lang/Comparable"), (0, .class_ 4), (0, u "java/lang/Object")] 7

/-- java/lang/Comparable -/
def k4 : Class := { plain "java/lang/Comparable" (some 0) with
  accessFlags := 1537
  interfaces := #[]
  cf := some (fileOf pool4 1 #[] #[] 1537 3 #[] #[])
  fields := #[]
  methods := #[]
  instanceTypes := #[]
  staticTypes := #[]
  resolved := Array.replicate 12 none
  statics := none }

def pool5 : Array CpInfo := pool [(2, .class_ 4), (1, u "java/lang/CharSequence"), (42, .class_ 48), (0, u "java/lang/CharSequence$1CodePointIterator"), (10, .class_ 60), (0, u "java/lang/CharSequence$1CharIterator"), (5, .class_ 67), (0, u "java/lang/Object")] 63

/-- java/lang/CharSequence -/
def k5 : Class := { plain "java/lang/CharSequence" (some 0) with
  accessFlags := 1537
  interfaces := #[]
  cf := some (fileOf pool5 2 #[.nestMembers #[47, 59]] #[] 1537 66 #[] #[])
  fields := #[]
  methods := #[]
  instanceTypes := #[]
  staticTypes := #[]
  resolved := Array.replicate 131 none
  statics := none }

def pool6 : Array CpInfo := pool [(1, .class_ 2), (0, u "java/lang/constant/Constable"), (0, .class_ 4), (0, u "java/lang/Object")] 6

/-- java/lang/constant/Constable -/
def k6 : Class := { plain "java/lang/constant/Constable" (some 0) with
  accessFlags := 1537
  interfaces := #[]
  cf := some (fileOf pool6 1 #[] #[] 1537 3 #[] #[])
  fields := #[]
  methods := #[]
  instanceTypes := #[]
  staticTypes := #[]
  resolved := Array.replicate 11 none
  statics := none }

def pool7 : Array CpInfo := pool [(1, .class_ 2), (0, u "java/lang/constant/ConstantDesc"), (0, .class_ 4), (0, u "java/lang/Object")] 32

/-- java/lang/constant/ConstantDesc -/
def k7 : Class := { plain "java/lang/constant/ConstantDesc" (some 0) with
  accessFlags := 1537
  interfaces := #[]
  cf := some (fileOf pool7 1 #[] #[] 1537 3 #[] #[])
  fields := #[]
  methods := #[]
  instanceTypes := #[]
  staticTypes := #[]
  resolved := Array.replicate 37 none
  statics := none }

def pool8 : Array CpInfo := pool [(2, .class_ 4), (1, u "java/lang/Object"), (0, u "<init>"), (0, u "()V"), (3, .class_ 12), (1, u "java/lang/String"), (0, u "value"), (0, u "[B"), (2, u "coder"), (0, u "B"), (2, u "hash"), (0, u "I"), (2, u "hashIsZero"), (0, u "Z"), (13, u "COMPACT_STRINGS"), (534, .class_ 576), (0, u "java/lang/CharSequence"), (22, u "CASE_INSENSITIVE_ORDER"), (0, u "Ljava/util/Comparator;"), (500, u "serialPersistentFields"), (0, u "[Ljava/io/ObjectStreamField;"), (0, .class_ 1104), (0, u "java/lang/String$CaseInsensitiveComparator"), (1, .class_ 1107), (0, u "java/io/Serializable"), (0, .class_ 1109), (0, u "java/lang/Comparable"), (0, .class_ 1111), (0, u "java/lang/constant/Constable"), (0, .class_ 1113), (0, u "java/lang/constant/ConstantDesc"), (2, u "serialVersionUID"), (0, u "J"), (3, u "REPL"), (0, u "C"), (2, u "LATIN1"), (1, u "UTF16")] 323

def k8m0 : Method := { name := "<init>", desc := "()V", sig := { parameters := [], returnType := none }, accessFlags := 1, code := none }
/-- java/lang/String -/
def k8 : Class := { plain "java/lang/String" (some 0) with
  accessFlags := 49
  interfaces := #[3, 4, 5, 6, 7]
  cf := some (fileOf pool8 10 #[.nestMembers #[1103]] #[{ accessFlags := 1, nameIndex := 5, descriptorIndex := 6, attributes := #[] }] 49 2 #[1106, 1108, 575, 1110, 1112] #[{ accessFlags := 18, nameIndex := 13, descriptorIndex := 14, attributes := #[] }, { accessFlags := 18, nameIndex := 17, descriptorIndex := 18, attributes := #[] }, { accessFlags := 2, nameIndex := 21, descriptorIndex := 22, attributes := #[] }, { accessFlags := 2, nameIndex := 25, descriptorIndex := 26, attributes := #[] }, { accessFlags := 26, nameIndex := 1116, descriptorIndex := 1117, attributes := #[] }, { accessFlags := 24, nameIndex := 40, descriptorIndex := 26, attributes := #[] }, { accessFlags := 26, nameIndex := 1101, descriptorIndex := 1102, attributes := #[] }, { accessFlags := 26, nameIndex := 1121, descriptorIndex := 1122, attributes := #[] }, { accessFlags := 25, nameIndex := 599, descriptorIndex := 600, attributes := #[] }, { accessFlags := 24, nameIndex := 1125, descriptorIndex := 18, attributes := #[] }, { accessFlags := 24, nameIndex := 1127, descriptorIndex := 18, attributes := #[] }])
  fields := #[{ name := "value", type := (.array .byte), accessFlags := 18, slot := 0, constantValue := 0 }, { name := "coder", type := .byte, accessFlags := 18, slot := 1, constantValue := 0 }, { name := "hash", type := .int, accessFlags := 2, slot := 2, constantValue := 0 }, { name := "hashIsZero", type := .boolean, accessFlags := 2, slot := 3, constantValue := 0 }, { name := "serialVersionUID", type := .long, accessFlags := 26, slot := 0, constantValue := 0 }, { name := "COMPACT_STRINGS", type := .boolean, accessFlags := 24, slot := 1, constantValue := 0 }, { name := "serialPersistentFields", type := (.array (.object "java/io/ObjectStreamField")), accessFlags := 26, slot := 2, constantValue := 0 }, { name := "REPL", type := .char, accessFlags := 26, slot := 3, constantValue := 0 }, { name := "CASE_INSENSITIVE_ORDER", type := (.object "java/util/Comparator"), accessFlags := 25, slot := 4, constantValue := 0 }, { name := "LATIN1", type := .byte, accessFlags := 24, slot := 5, constantValue := 0 }, { name := "UTF16", type := .byte, accessFlags := 24, slot := 6, constantValue := 0 }]
  methods := #[k8m0]
  instanceTypes := #[(.array .byte), .byte, .int, .boolean]
  staticTypes := #[.long, .boolean, (.array (.object "java/io/ObjectStreamField")), .char, (.object "java/util/Comparator"), .byte, .byte]
  resolved := Array.replicate 1451 none
  statics := none }

def pool9 : Array CpInfo := pool [(2, .class_ 4), (1, u "java/lang/Object"), (0, u "<init>"), (0, u "()V"), (9, .class_ 17), (0, u "com/example/vacant_throne/vacantthrone/core/Ranges"), (0, u "MAX_UNSIGNED_16"), (0, u "I"), (2, u "MAX_UNSIGNED_32"), (0, u "J"), (4, u "require"), (0, u "(Ljava/lang/String;JJJ)J")] 18

def k9m0 : Method := { name := "<init>", desc := "()V", sig := { parameters := [], returnType := none }, accessFlags := 2, code := none }
def k9c1 : Code := { maxStack := 9, maxLocals := 7, code := prog_14_method_2_code, exceptionTable := #[], attributes := #[] }
def k9m1 : Method := { name := "require", desc := "(Ljava/lang/String;JJJ)J", sig := { parameters := [(.object "java/lang/String"), .long, .long, .long], returnType := some .long }, accessFlags := 8, code := some k9c1 }
/-- com/example/vacant_throne/vacantthrone/core/Ranges -/
def k9 : Class := { plain "com/example/vacant_throne/vacantthrone/core/Ranges" (some 0) with
  accessFlags := 48
  interfaces := #[]
  cf := some (fileOf pool9 16 #[] #[{ accessFlags := 2, nameIndex := 5, descriptorIndex := 6, attributes := #[] }, { accessFlags := 8, nameIndex := 28, descriptorIndex := 29, attributes := #[] }] 48 2 #[] #[{ accessFlags := 24, nameIndex := 18, descriptorIndex := 19, attributes := #[] }, { accessFlags := 24, nameIndex := 22, descriptorIndex := 23, attributes := #[] }])
  fields := #[{ name := "MAX_UNSIGNED_16", type := .int, accessFlags := 24, slot := 0, constantValue := 0 }, { name := "MAX_UNSIGNED_32", type := .long, accessFlags := 24, slot := 1, constantValue := 0 }]
  methods := #[k9m0, k9m1]
  instanceTypes := #[]
  staticTypes := #[.int, .long]
  resolved := Array.replicate 48 none
  statics := none }

def pool10 : Array CpInfo := pool [(1, .methodref 2 3), (0, .class_ 4), (0, .nameAndType 5 6), (0, u "java/lang/Object"), (0, u "<init>"), (0, u "()V"), (1, .class_ 10), (1, u "java/lang/Number"), (2, .class_ 14), (0, u "java/io/Serializable"), (0, u "serialVersionUID"), (0, u "J")] 20

def k10c0 : Code := { maxStack := 1, maxLocals := 1, code := jdk_18_method_1_code, exceptionTable := #[], attributes := #[] }
def k10m0 : Method := { name := "<init>", desc := "()V", sig := { parameters := [], returnType := none }, accessFlags := 1, code := some k10c0 }
/-- java/lang/Number -/
def k10 : Class := { plain "java/lang/Number" (some 0) with
  accessFlags := 1057
  interfaces := #[3]
  cf := some (fileOf pool10 8 #[] #[{ accessFlags := 1, nameIndex := 5, descriptorIndex := 6, attributes := #[] }] 1057 2 #[13] #[{ accessFlags := 26, nameIndex := 15, descriptorIndex := 16, attributes := #[] }])
  fields := #[{ name := "serialVersionUID", type := .long, accessFlags := 26, slot := 0, constantValue := 0 }]
  methods := #[k10m0]
  instanceTypes := #[]
  staticTypes := #[.long]
  resolved := Array.replicate 37 none
  statics := none }

def pool11 : Array CpInfo := pool [(1, .class_ 2), (0, u "java/lang/Long"), (55, .nameAndType 59 60), (0, u "<init>"), (0, u "()V"), (24, u "valueOf"), (143, u "(J)Ljava/lang/Long;"), (0, .long 18446744073709551488), (1, .long 127), (1, .fieldref 235 236), (0, .class_ 237), (0, .nameAndType 238 239), (0, u "java/lang/Long$LongCache"), (0, u "cache"), (0, u "[Ljava/lang/Long;"), (0, .methodref 1 241), (0, .nameAndType 59 242), (0, u "(J)V"), (27, .methodref 271 58), (0, .class_ 272), (0, u "java/lang/Number"), (0, .fieldref 1 274), (0, .nameAndType 275 276), (0, u "value"), (0, u "J"), (84, u "TYPE"), (0, u "Ljava/lang/Class;"), (0, .class_ 364), (0, u "java/lang/Comparable"), (0, .class_ 366), (0, u "java/lang/constant/Constable"), (0, .class_ 368), (0, u "java/lang/constant/ConstantDesc"), (0, u "MIN_VALUE"), (1, u "MAX_VALUE"), (4, u "SIZE"), (0, u "I"), (1, u "BYTES"), (1, u "serialVersionUID")] 142

def k11c0 : Code := { maxStack := 4, maxLocals := 3, code := jdk_35_method_24_code, exceptionTable := #[], attributes := #[] }
def k11m0 : Method := { name := "valueOf", desc := "(J)Ljava/lang/Long;", sig := { parameters := [.long], returnType := some (.object "java/lang/Long") }, accessFlags := 9, code := some k11c0 }
def k11c1 : Code := { maxStack := 3, maxLocals := 3, code := jdk_35_method_26_code, exceptionTable := #[], attributes := #[] }
def k11m1 : Method := { name := "<init>", desc := "(J)V", sig := { parameters := [.long], returnType := none }, accessFlags := 1, code := some k11c1 }
/-- java/lang/Long -/
def k11 : Class := { plain "java/lang/Long" (some 10) with
  accessFlags := 49
  interfaces := #[4, 6, 7]
  cf := some (fileOf pool11 1 #[.nestMembers #[235]] #[{ accessFlags := 9, nameIndex := 85, descriptorIndex := 229, attributes := #[] }, { accessFlags := 1, nameIndex := 59, descriptorIndex := 242, attributes := #[] }] 49 271 #[363, 365, 367] #[{ accessFlags := 25, nameIndex := 369, descriptorIndex := 276, attributes := #[] }, { accessFlags := 25, nameIndex := 371, descriptorIndex := 276, attributes := #[] }, { accessFlags := 25, nameIndex := 361, descriptorIndex := 362, attributes := #[] }, { accessFlags := 18, nameIndex := 275, descriptorIndex := 276, attributes := #[] }, { accessFlags := 25, nameIndex := 376, descriptorIndex := 377, attributes := #[] }, { accessFlags := 25, nameIndex := 379, descriptorIndex := 377, attributes := #[] }, { accessFlags := 26, nameIndex := 381, descriptorIndex := 276, attributes := #[] }])
  fields := #[{ name := "MIN_VALUE", type := .long, accessFlags := 25, slot := 0, constantValue := 0 }, { name := "MAX_VALUE", type := .long, accessFlags := 25, slot := 1, constantValue := 0 }, { name := "TYPE", type := (.object "java/lang/Class"), accessFlags := 25, slot := 2, constantValue := 0 }, { name := "value", type := .long, accessFlags := 18, slot := 0, constantValue := 0 }, { name := "SIZE", type := .int, accessFlags := 25, slot := 3, constantValue := 0 }, { name := "BYTES", type := .int, accessFlags := 25, slot := 4, constantValue := 0 }, { name := "serialVersionUID", type := .long, accessFlags := 26, slot := 5, constantValue := 0 }]
  methods := #[k11m0, k11m1]
  instanceTypes := #[.long]
  staticTypes := #[.long, .long, (.object "java/lang/Class"), .int, .int, .long]
  resolved := Array.replicate 524 none
  statics := none }

def pool12 : Array CpInfo := pool [(2, .class_ 4), (1, u "java/lang/Object"), (0, u "<init>"), (0, u "()V"), (0, .class_ 8), (0, u "java/lang/Long"), (7, .class_ 18), (1, u "java/lang/Long$LongCache"), (0, u "$assertionsDisabled"), (0, u "Z"), (8, u "archivedCache"), (0, u "[Ljava/lang/Long;"), (7, u "cache")] 24

def k12m0 : Method := { name := "<init>", desc := "()V", sig := { parameters := [], returnType := none }, accessFlags := 2, code := none }
/-- java/lang/Long$LongCache -/
def k12 : Class := { plain "java/lang/Long$LongCache" (some 0) with
  accessFlags := 48
  interfaces := #[]
  cf := some (fileOf pool12 16 #[.nestHost 7] #[{ accessFlags := 2, nameIndex := 5, descriptorIndex := 6, attributes := #[] }] 48 2 #[] #[{ accessFlags := 24, nameIndex := 38, descriptorIndex := 30, attributes := #[] }, { accessFlags := 8, nameIndex := 29, descriptorIndex := 30, attributes := #[] }, { accessFlags := 4120, nameIndex := 19, descriptorIndex := 20, attributes := #[] }])
  fields := #[{ name := "cache", type := (.array (.object "java/lang/Long")), accessFlags := 24, slot := 0, constantValue := 0 }, { name := "archivedCache", type := (.array (.object "java/lang/Long")), accessFlags := 8, slot := 1, constantValue := 0 }, { name := "$assertionsDisabled", type := .boolean, accessFlags := 4120, slot := 2, constantValue := 0 }]
  methods := #[k12m0]
  instanceTypes := #[]
  staticTypes := #[(.array (.object "java/lang/Long")), (.array (.object "java/lang/Long")), .boolean]
  resolved := Array.replicate 63 none
  statics := some 0 }

def pool13 : Array CpInfo := pool [(1, u "java/lang/Cloneable"), (0, .class_ 1), (0, u "java/lang/Object"), (0, .class_ 3)] 3

/-- java/lang/Cloneable -/
def k13 : Class := { plain "java/lang/Cloneable" (some 0) with
  accessFlags := 1537
  interfaces := #[]
  cf := some (fileOf pool13 2 #[] #[] 1537 4 #[] #[])
  fields := #[]
  methods := #[]
  instanceTypes := #[]
  staticTypes := #[]
  resolved := Array.replicate 8 none
  statics := none }

/-- the primitive byte -/
def k14 : Class := { plain "byte" none with kind := .primitive 'B', accessFlags := 0x411 }
/-- [B -/
def k15 : Class := { plain "[B" (some 0) with kind := .array 14 .byte, interfaces := #[13, 3], accessFlags := 1041 }

/-- the primitive int -/
def k16 : Class := { plain "int" none with kind := .primitive 'I', accessFlags := 0x411 }
/-- [I -/
def k17 : Class := { plain "[I" (some 0) with kind := .array 16 .int, interfaces := #[13, 3], accessFlags := 1041 }

/-- the primitive long -/
def k18 : Class := { plain "long" none with kind := .primitive 'J', accessFlags := 0x411 }
/-- [J -/
def k19 : Class := { plain "[J" (some 0) with kind := .array 18 .long, interfaces := #[13, 3], accessFlags := 1041 }

/-- [Ljava/lang/Long; -/
def k20 : Class := { plain "[Ljava/lang/Long;" (some 0) with kind := .array 11 (.object "java/lang/Long"), interfaces := #[13, 3], accessFlags := 1041 }

def heap : Heap := #[{ cls := 12, slots := #[.ref 1, .null, .int 0], vm := .statics 12 },
  { cls := 20, slots := #[.ref 2, .ref 3, .ref 4, .ref 5, .ref 6, .ref 7, .ref 8, .ref 9, .ref 10, .ref 11, .ref 12, .ref 13, .ref 14, .ref 15, .ref 16, .ref 17, .ref 18, .ref 19, .ref 20, .ref 21, .ref 22, .ref 23, .ref 24, .ref 25, .ref 26, .ref 27, .ref 28, .ref 29, .ref 30, .ref 31, .ref 32, .ref 33, .ref 34, .ref 35, .ref 36, .ref 37, .ref 38, .ref 39, .ref 40, .ref 41, .ref 42, .ref 43, .ref 44, .ref 45, .ref 46, .ref 47, .ref 48, .ref 49, .ref 50, .ref 51, .ref 52, .ref 53, .ref 54, .ref 55, .ref 56, .ref 57, .ref 58, .ref 59, .ref 60, .ref 61, .ref 62, .ref 63, .ref 64, .ref 65, .ref 66, .ref 67, .ref 68, .ref 69, .ref 70, .ref 71, .ref 72, .ref 73, .ref 74, .ref 75, .ref 76, .ref 77, .ref 78, .ref 79, .ref 80, .ref 81, .ref 82, .ref 83, .ref 84, .ref 85, .ref 86, .ref 87, .ref 88, .ref 89, .ref 90, .ref 91, .ref 92, .ref 93, .ref 94, .ref 95, .ref 96, .ref 97, .ref 98, .ref 99, .ref 100, .ref 101, .ref 102, .ref 103, .ref 104, .ref 105, .ref 106, .ref 107, .ref 108, .ref 109, .ref 110, .ref 111, .ref 112, .ref 113, .ref 114, .ref 115, .ref 116, .ref 117, .ref 118, .ref 119, .ref 120, .ref 121, .ref 122, .ref 123, .ref 124, .ref 125, .ref 126, .ref 127, .ref 128, .ref 129, .ref 130, .ref 131, .ref 132, .ref 133, .ref 134, .ref 135, .ref 136, .ref 137, .ref 138, .ref 139, .ref 140, .ref 141, .ref 142, .ref 143, .ref 144, .ref 145, .ref 146, .ref 147, .ref 148, .ref 149, .ref 150, .ref 151, .ref 152, .ref 153, .ref 154, .ref 155, .ref 156, .ref 157, .ref 158, .ref 159, .ref 160, .ref 161, .ref 162, .ref 163, .ref 164, .ref 165, .ref 166, .ref 167, .ref 168, .ref 169, .ref 170, .ref 171, .ref 172, .ref 173, .ref 174, .ref 175, .ref 176, .ref 177, .ref 178, .ref 179, .ref 180, .ref 181, .ref 182, .ref 183, .ref 184, .ref 185, .ref 186, .ref 187, .ref 188, .ref 189, .ref 190, .ref 191, .ref 192, .ref 193, .ref 194, .ref 195, .ref 196, .ref 197, .ref 198, .ref 199, .ref 200, .ref 201, .ref 202, .ref 203, .ref 204, .ref 205, .ref 206, .ref 207, .ref 208, .ref 209, .ref 210, .ref 211, .ref 212, .ref 213, .ref 214, .ref 215, .ref 216, .ref 217, .ref 218, .ref 219, .ref 220, .ref 221, .ref 222, .ref 223, .ref 224, .ref 225, .ref 226, .ref 227, .ref 228, .ref 229, .ref 230, .ref 231, .ref 232, .ref 233, .ref 234, .ref 235, .ref 236, .ref 237, .ref 238, .ref 239, .ref 240, .ref 241, .ref 242, .ref 243, .ref 244, .ref 245, .ref 246, .ref 247, .ref 248, .ref 249, .ref 250, .ref 251, .ref 252, .ref 253, .ref 254, .ref 255, .ref 256, .ref 257], vm := .none },
  { cls := 11, slots := #[.long (-128)], vm := .none },
  { cls := 11, slots := #[.long (-127)], vm := .none },
  { cls := 11, slots := #[.long (-126)], vm := .none },
  { cls := 11, slots := #[.long (-125)], vm := .none },
  { cls := 11, slots := #[.long (-124)], vm := .none },
  { cls := 11, slots := #[.long (-123)], vm := .none },
  { cls := 11, slots := #[.long (-122)], vm := .none },
  { cls := 11, slots := #[.long (-121)], vm := .none },
  { cls := 11, slots := #[.long (-120)], vm := .none },
  { cls := 11, slots := #[.long (-119)], vm := .none },
  { cls := 11, slots := #[.long (-118)], vm := .none },
  { cls := 11, slots := #[.long (-117)], vm := .none },
  { cls := 11, slots := #[.long (-116)], vm := .none },
  { cls := 11, slots := #[.long (-115)], vm := .none },
  { cls := 11, slots := #[.long (-114)], vm := .none },
  { cls := 11, slots := #[.long (-113)], vm := .none },
  { cls := 11, slots := #[.long (-112)], vm := .none },
  { cls := 11, slots := #[.long (-111)], vm := .none },
  { cls := 11, slots := #[.long (-110)], vm := .none },
  { cls := 11, slots := #[.long (-109)], vm := .none },
  { cls := 11, slots := #[.long (-108)], vm := .none },
  { cls := 11, slots := #[.long (-107)], vm := .none },
  { cls := 11, slots := #[.long (-106)], vm := .none },
  { cls := 11, slots := #[.long (-105)], vm := .none },
  { cls := 11, slots := #[.long (-104)], vm := .none },
  { cls := 11, slots := #[.long (-103)], vm := .none },
  { cls := 11, slots := #[.long (-102)], vm := .none },
  { cls := 11, slots := #[.long (-101)], vm := .none },
  { cls := 11, slots := #[.long (-100)], vm := .none },
  { cls := 11, slots := #[.long (-99)], vm := .none },
  { cls := 11, slots := #[.long (-98)], vm := .none },
  { cls := 11, slots := #[.long (-97)], vm := .none },
  { cls := 11, slots := #[.long (-96)], vm := .none },
  { cls := 11, slots := #[.long (-95)], vm := .none },
  { cls := 11, slots := #[.long (-94)], vm := .none },
  { cls := 11, slots := #[.long (-93)], vm := .none },
  { cls := 11, slots := #[.long (-92)], vm := .none },
  { cls := 11, slots := #[.long (-91)], vm := .none },
  { cls := 11, slots := #[.long (-90)], vm := .none },
  { cls := 11, slots := #[.long (-89)], vm := .none },
  { cls := 11, slots := #[.long (-88)], vm := .none },
  { cls := 11, slots := #[.long (-87)], vm := .none },
  { cls := 11, slots := #[.long (-86)], vm := .none },
  { cls := 11, slots := #[.long (-85)], vm := .none },
  { cls := 11, slots := #[.long (-84)], vm := .none },
  { cls := 11, slots := #[.long (-83)], vm := .none },
  { cls := 11, slots := #[.long (-82)], vm := .none },
  { cls := 11, slots := #[.long (-81)], vm := .none },
  { cls := 11, slots := #[.long (-80)], vm := .none },
  { cls := 11, slots := #[.long (-79)], vm := .none },
  { cls := 11, slots := #[.long (-78)], vm := .none },
  { cls := 11, slots := #[.long (-77)], vm := .none },
  { cls := 11, slots := #[.long (-76)], vm := .none },
  { cls := 11, slots := #[.long (-75)], vm := .none },
  { cls := 11, slots := #[.long (-74)], vm := .none },
  { cls := 11, slots := #[.long (-73)], vm := .none },
  { cls := 11, slots := #[.long (-72)], vm := .none },
  { cls := 11, slots := #[.long (-71)], vm := .none },
  { cls := 11, slots := #[.long (-70)], vm := .none },
  { cls := 11, slots := #[.long (-69)], vm := .none },
  { cls := 11, slots := #[.long (-68)], vm := .none },
  { cls := 11, slots := #[.long (-67)], vm := .none },
  { cls := 11, slots := #[.long (-66)], vm := .none },
  { cls := 11, slots := #[.long (-65)], vm := .none },
  { cls := 11, slots := #[.long (-64)], vm := .none },
  { cls := 11, slots := #[.long (-63)], vm := .none },
  { cls := 11, slots := #[.long (-62)], vm := .none },
  { cls := 11, slots := #[.long (-61)], vm := .none },
  { cls := 11, slots := #[.long (-60)], vm := .none },
  { cls := 11, slots := #[.long (-59)], vm := .none },
  { cls := 11, slots := #[.long (-58)], vm := .none },
  { cls := 11, slots := #[.long (-57)], vm := .none },
  { cls := 11, slots := #[.long (-56)], vm := .none },
  { cls := 11, slots := #[.long (-55)], vm := .none },
  { cls := 11, slots := #[.long (-54)], vm := .none },
  { cls := 11, slots := #[.long (-53)], vm := .none },
  { cls := 11, slots := #[.long (-52)], vm := .none },
  { cls := 11, slots := #[.long (-51)], vm := .none },
  { cls := 11, slots := #[.long (-50)], vm := .none },
  { cls := 11, slots := #[.long (-49)], vm := .none },
  { cls := 11, slots := #[.long (-48)], vm := .none },
  { cls := 11, slots := #[.long (-47)], vm := .none },
  { cls := 11, slots := #[.long (-46)], vm := .none },
  { cls := 11, slots := #[.long (-45)], vm := .none },
  { cls := 11, slots := #[.long (-44)], vm := .none },
  { cls := 11, slots := #[.long (-43)], vm := .none },
  { cls := 11, slots := #[.long (-42)], vm := .none },
  { cls := 11, slots := #[.long (-41)], vm := .none },
  { cls := 11, slots := #[.long (-40)], vm := .none },
  { cls := 11, slots := #[.long (-39)], vm := .none },
  { cls := 11, slots := #[.long (-38)], vm := .none },
  { cls := 11, slots := #[.long (-37)], vm := .none },
  { cls := 11, slots := #[.long (-36)], vm := .none },
  { cls := 11, slots := #[.long (-35)], vm := .none },
  { cls := 11, slots := #[.long (-34)], vm := .none },
  { cls := 11, slots := #[.long (-33)], vm := .none },
  { cls := 11, slots := #[.long (-32)], vm := .none },
  { cls := 11, slots := #[.long (-31)], vm := .none },
  { cls := 11, slots := #[.long (-30)], vm := .none },
  { cls := 11, slots := #[.long (-29)], vm := .none },
  { cls := 11, slots := #[.long (-28)], vm := .none },
  { cls := 11, slots := #[.long (-27)], vm := .none },
  { cls := 11, slots := #[.long (-26)], vm := .none },
  { cls := 11, slots := #[.long (-25)], vm := .none },
  { cls := 11, slots := #[.long (-24)], vm := .none },
  { cls := 11, slots := #[.long (-23)], vm := .none },
  { cls := 11, slots := #[.long (-22)], vm := .none },
  { cls := 11, slots := #[.long (-21)], vm := .none },
  { cls := 11, slots := #[.long (-20)], vm := .none },
  { cls := 11, slots := #[.long (-19)], vm := .none },
  { cls := 11, slots := #[.long (-18)], vm := .none },
  { cls := 11, slots := #[.long (-17)], vm := .none },
  { cls := 11, slots := #[.long (-16)], vm := .none },
  { cls := 11, slots := #[.long (-15)], vm := .none },
  { cls := 11, slots := #[.long (-14)], vm := .none },
  { cls := 11, slots := #[.long (-13)], vm := .none },
  { cls := 11, slots := #[.long (-12)], vm := .none },
  { cls := 11, slots := #[.long (-11)], vm := .none },
  { cls := 11, slots := #[.long (-10)], vm := .none },
  { cls := 11, slots := #[.long (-9)], vm := .none },
  { cls := 11, slots := #[.long (-8)], vm := .none },
  { cls := 11, slots := #[.long (-7)], vm := .none },
  { cls := 11, slots := #[.long (-6)], vm := .none },
  { cls := 11, slots := #[.long (-5)], vm := .none },
  { cls := 11, slots := #[.long (-4)], vm := .none },
  { cls := 11, slots := #[.long (-3)], vm := .none },
  { cls := 11, slots := #[.long (-2)], vm := .none },
  { cls := 11, slots := #[.long (-1)], vm := .none },
  { cls := 11, slots := #[.long 0], vm := .none },
  { cls := 11, slots := #[.long 1], vm := .none },
  { cls := 11, slots := #[.long 2], vm := .none },
  { cls := 11, slots := #[.long 3], vm := .none },
  { cls := 11, slots := #[.long 4], vm := .none },
  { cls := 11, slots := #[.long 5], vm := .none },
  { cls := 11, slots := #[.long 6], vm := .none },
  { cls := 11, slots := #[.long 7], vm := .none },
  { cls := 11, slots := #[.long 8], vm := .none },
  { cls := 11, slots := #[.long 9], vm := .none },
  { cls := 11, slots := #[.long 10], vm := .none },
  { cls := 11, slots := #[.long 11], vm := .none },
  { cls := 11, slots := #[.long 12], vm := .none },
  { cls := 11, slots := #[.long 13], vm := .none },
  { cls := 11, slots := #[.long 14], vm := .none },
  { cls := 11, slots := #[.long 15], vm := .none },
  { cls := 11, slots := #[.long 16], vm := .none },
  { cls := 11, slots := #[.long 17], vm := .none },
  { cls := 11, slots := #[.long 18], vm := .none },
  { cls := 11, slots := #[.long 19], vm := .none },
  { cls := 11, slots := #[.long 20], vm := .none },
  { cls := 11, slots := #[.long 21], vm := .none },
  { cls := 11, slots := #[.long 22], vm := .none },
  { cls := 11, slots := #[.long 23], vm := .none },
  { cls := 11, slots := #[.long 24], vm := .none },
  { cls := 11, slots := #[.long 25], vm := .none },
  { cls := 11, slots := #[.long 26], vm := .none },
  { cls := 11, slots := #[.long 27], vm := .none },
  { cls := 11, slots := #[.long 28], vm := .none },
  { cls := 11, slots := #[.long 29], vm := .none },
  { cls := 11, slots := #[.long 30], vm := .none },
  { cls := 11, slots := #[.long 31], vm := .none },
  { cls := 11, slots := #[.long 32], vm := .none },
  { cls := 11, slots := #[.long 33], vm := .none },
  { cls := 11, slots := #[.long 34], vm := .none },
  { cls := 11, slots := #[.long 35], vm := .none },
  { cls := 11, slots := #[.long 36], vm := .none },
  { cls := 11, slots := #[.long 37], vm := .none },
  { cls := 11, slots := #[.long 38], vm := .none },
  { cls := 11, slots := #[.long 39], vm := .none },
  { cls := 11, slots := #[.long 40], vm := .none },
  { cls := 11, slots := #[.long 41], vm := .none },
  { cls := 11, slots := #[.long 42], vm := .none },
  { cls := 11, slots := #[.long 43], vm := .none },
  { cls := 11, slots := #[.long 44], vm := .none },
  { cls := 11, slots := #[.long 45], vm := .none },
  { cls := 11, slots := #[.long 46], vm := .none },
  { cls := 11, slots := #[.long 47], vm := .none },
  { cls := 11, slots := #[.long 48], vm := .none },
  { cls := 11, slots := #[.long 49], vm := .none },
  { cls := 11, slots := #[.long 50], vm := .none },
  { cls := 11, slots := #[.long 51], vm := .none },
  { cls := 11, slots := #[.long 52], vm := .none },
  { cls := 11, slots := #[.long 53], vm := .none },
  { cls := 11, slots := #[.long 54], vm := .none },
  { cls := 11, slots := #[.long 55], vm := .none },
  { cls := 11, slots := #[.long 56], vm := .none },
  { cls := 11, slots := #[.long 57], vm := .none },
  { cls := 11, slots := #[.long 58], vm := .none },
  { cls := 11, slots := #[.long 59], vm := .none },
  { cls := 11, slots := #[.long 60], vm := .none },
  { cls := 11, slots := #[.long 61], vm := .none },
  { cls := 11, slots := #[.long 62], vm := .none },
  { cls := 11, slots := #[.long 63], vm := .none },
  { cls := 11, slots := #[.long 64], vm := .none },
  { cls := 11, slots := #[.long 65], vm := .none },
  { cls := 11, slots := #[.long 66], vm := .none },
  { cls := 11, slots := #[.long 67], vm := .none },
  { cls := 11, slots := #[.long 68], vm := .none },
  { cls := 11, slots := #[.long 69], vm := .none },
  { cls := 11, slots := #[.long 70], vm := .none },
  { cls := 11, slots := #[.long 71], vm := .none },
  { cls := 11, slots := #[.long 72], vm := .none },
  { cls := 11, slots := #[.long 73], vm := .none },
  { cls := 11, slots := #[.long 74], vm := .none },
  { cls := 11, slots := #[.long 75], vm := .none },
  { cls := 11, slots := #[.long 76], vm := .none },
  { cls := 11, slots := #[.long 77], vm := .none },
  { cls := 11, slots := #[.long 78], vm := .none },
  { cls := 11, slots := #[.long 79], vm := .none },
  { cls := 11, slots := #[.long 80], vm := .none },
  { cls := 11, slots := #[.long 81], vm := .none },
  { cls := 11, slots := #[.long 82], vm := .none },
  { cls := 11, slots := #[.long 83], vm := .none },
  { cls := 11, slots := #[.long 84], vm := .none },
  { cls := 11, slots := #[.long 85], vm := .none },
  { cls := 11, slots := #[.long 86], vm := .none },
  { cls := 11, slots := #[.long 87], vm := .none },
  { cls := 11, slots := #[.long 88], vm := .none },
  { cls := 11, slots := #[.long 89], vm := .none },
  { cls := 11, slots := #[.long 90], vm := .none },
  { cls := 11, slots := #[.long 91], vm := .none },
  { cls := 11, slots := #[.long 92], vm := .none },
  { cls := 11, slots := #[.long 93], vm := .none },
  { cls := 11, slots := #[.long 94], vm := .none },
  { cls := 11, slots := #[.long 95], vm := .none },
  { cls := 11, slots := #[.long 96], vm := .none },
  { cls := 11, slots := #[.long 97], vm := .none },
  { cls := 11, slots := #[.long 98], vm := .none },
  { cls := 11, slots := #[.long 99], vm := .none },
  { cls := 11, slots := #[.long 100], vm := .none },
  { cls := 11, slots := #[.long 101], vm := .none },
  { cls := 11, slots := #[.long 102], vm := .none },
  { cls := 11, slots := #[.long 103], vm := .none },
  { cls := 11, slots := #[.long 104], vm := .none },
  { cls := 11, slots := #[.long 105], vm := .none },
  { cls := 11, slots := #[.long 106], vm := .none },
  { cls := 11, slots := #[.long 107], vm := .none },
  { cls := 11, slots := #[.long 108], vm := .none },
  { cls := 11, slots := #[.long 109], vm := .none },
  { cls := 11, slots := #[.long 110], vm := .none },
  { cls := 11, slots := #[.long 111], vm := .none },
  { cls := 11, slots := #[.long 112], vm := .none },
  { cls := 11, slots := #[.long 113], vm := .none },
  { cls := 11, slots := #[.long 114], vm := .none },
  { cls := 11, slots := #[.long 115], vm := .none },
  { cls := 11, slots := #[.long 116], vm := .none },
  { cls := 11, slots := #[.long 117], vm := .none },
  { cls := 11, slots := #[.long 118], vm := .none },
  { cls := 11, slots := #[.long 119], vm := .none },
  { cls := 11, slots := #[.long 120], vm := .none },
  { cls := 11, slots := #[.long 121], vm := .none },
  { cls := 11, slots := #[.long 122], vm := .none },
  { cls := 11, slots := #[.long 123], vm := .none },
  { cls := 11, slots := #[.long 124], vm := .none },
  { cls := 11, slots := #[.long 125], vm := .none },
  { cls := 11, slots := #[.long 126], vm := .none },
  { cls := 11, slots := #[.long 127], vm := .none }]
def classes : Array Class := #[k0, k1, k2, k3, k4, k5, k6, k7, k8, k9, k10, k11, k12, k13, k14, k15, k16, k17, k18, k19, k20]
def interned : List (Array UInt16 × Addr) := []
def slotsUsed : Nat := 515
def theMethod : MethodId := ⟨1, 2⟩
def args0 : Array Value := #[.long 5, .long 6, .long 7, .int 8, .int 9, .long 10]
def aboutOver (below : List Frame) : State where
  vm := { classes := classes, interned := interned.toArray }
  heap := heap
  slotsUsed := slotsUsed
  threads := #[{ frames := .invoking theMethod args0 :: below }]
def below0 : List Frame := [.native { method := ⟨0, 0⟩, args := #[] }]
def about1 : State := aboutOver below0
def p0 : Program := .bare "" "" ""
def e0 : Env := launch0.env 0 0 0
theorem w_frames : about1.frames = Frame.invoking theMethod args0 :: below0 := rfl
set_option maxRecDepth 65536 in
theorem w_args : argsFit about1.vm theMethod args0 = true := by decide +kernel
set_option maxRecDepth 65536 in
theorem w_heap : heapFits about1 = true := by decide +kernel
set_option maxRecDepth 65536 in
theorem w_runnable : about1.curStatus? = some .runnable := by decide +kernel
set_option maxRecDepth 65536 in
theorem w_alone : about1.alone = true := by decide +kernel
set_option maxRecDepth 65536 in
theorem w_named : about1.methodNamed? x = some theMethod := by decide +kernel
set_option maxRecDepth 65536 in
theorem w_hears : about1.hears theMethod below0 = true := by decide +kernel
set_option maxRecDepth 65536 in
theorem w_ripe : about1.ripe theMethod args0 below0 = true := by decide +kernel
theorem w_running : about1.status = .running := rfl
set_option maxRecDepth 65536 in
theorem w_room : about1.hasRoom e0.platform room_1 = true :=
  launch0.hasRoom_least _ room_1 (by decide +kernel) (by decide +kernel) (by decide +kernel) (by decide +kernel) (by decide +kernel) (by decide +kernel)
theorem allAtoms_all (ts : List Jvm.Cond) (a : Array Jvm.Value) (st : Jvm.State) : (allAtoms ts).before a st = ts.all (fun c => c.before a st) := by
  induction ts with
  | nil => rfl
  | cons c t ih =>
    show (Jvm.Cond.and c (allAtoms t)).before a st = _
    rw [Jvm.Cond.before_and, ih, List.all_cons]
def words1 : List Jvm.Cond := Jvm.Cond.code x code maxLocals ret :: tables_1
/-- a 'code' word, met by the world's own term for the bytes: nothing is compared byte by byte -/
theorem code_word {y : MethodName} {bytes : ByteArray} {mx : Nat} {rt : Option FieldType} {a : Array Value} {s : State} {m : MethodId} {meth : Method} {c : Code} (h1 : s.methodNamed? y = some m) (h2 : s.vm.method? m = some meth) (h3 : meth.code = some c) (h4 : c.code = bytes)
    (h5 : (c.maxLocals == mx && c.exceptionTable.isEmpty && decide (c.maxStack ≤ mostOperands) && decide (meth.sig.returnType = rt) && !meth.locks && decide (parseMethodDescriptor y.desc = some meth.sig)) = true) : (Jvm.Cond.code y bytes mx rt).before a s = true := by
  simp only [Bool.and_eq_true, beq_iff_eq, Bool.not_eq_true', decide_eq_true_eq] at h5
  obtain ⟨⟨⟨⟨⟨g1, g2⟩, g3⟩, g4⟩, g5⟩, g6⟩ := h5
  simp [Cond.before, Cond.holds, Cond.value, h1, h2, h3, h4, g1, g2, g3, g4, g5, g6]
def isCode : Jvm.Cond → Bool
  | .code _ _ _ _ => true
  | _ => false
theorem all_split {L : List Jvm.Cond} {P : Jvm.Cond → Bool} (h1 : L.all (fun c => isCode c || P c) = true) (h2 : ∀ c ∈ L.filter isCode, P c = true) : L.all P = true := by
  refine List.all_eq_true.mpr fun c hc => ?_
  have h := List.all_eq_true.mp h1 c hc
  rcases Bool.eq_false_or_eq_true (isCode c) with hi | hi
  · exact h2 c (List.mem_filter.mpr ⟨hc, hi⟩)
  · simpa [hi] using h
set_option maxRecDepth 65536 in
theorem w_c0 : (Jvm.Cond.code x code maxLocals ret).before args0 about1 = true := code_word (m := ⟨1, 2⟩) (meth := k1m2) (c := k1c2) (by decide +kernel) rfl rfl rfl (by decide +kernel)
set_option maxRecDepth 65536 in
theorem w_c1 : (Jvm.Cond.code ({ cls := "com/example/vacant_throne/vacantthrone/core/HeartbeatEqualsPinLaw", name := "make", desc := "([J)Lcom/example/vacant_throne/vacantthrone/core/Heartbeat;" } : Jvm.MethodName) method_2_code (1 : Nat) (Option.some (Jvm.ClassFile.FieldType.object "com/example/vacant_throne/vacantthrone/core/Heartbeat"))).before args0 about1 = true := code_word (m := ⟨1, 1⟩) (meth := k1m1) (c := k1c1) (by decide +kernel) rfl rfl rfl (by decide +kernel)
set_option maxRecDepth 65536 in
theorem w_c2 : (Jvm.Cond.code ({ cls := "com/example/vacant_throne/vacantthrone/core/Heartbeat", name := "<init>", desc := "(ZIJIIJJJ)V" } : Jvm.MethodName) prog_8_method_1_code (13 : Nat) (Option.none : Option Jvm.ClassFile.FieldType)).before args0 about1 = true := code_word (m := ⟨2, 0⟩) (meth := k2m0) (c := k2c0) (by decide +kernel) rfl rfl rfl (by decide +kernel)
set_option maxRecDepth 65536 in
theorem w_c3 : (Jvm.Cond.code ({ cls := "java/lang/Object", name := "<init>", desc := "()V" } : Jvm.MethodName) object_method_1_code (1 : Nat) (Option.none : Option Jvm.ClassFile.FieldType)).before args0 about1 = true := code_word (m := ⟨0, 0⟩) (meth := k0m0) (c := k0c0) (by decide +kernel) rfl rfl rfl (by decide +kernel)
set_option maxRecDepth 65536 in
theorem w_c4 : (Jvm.Cond.code ({ cls := "com/example/vacant_throne/vacantthrone/core/Ranges", name := "require", desc := "(Ljava/lang/String;JJJ)J" } : Jvm.MethodName) prog_14_method_2_code (7 : Nat) (Option.some Jvm.ClassFile.FieldType.long)).before args0 about1 = true := code_word (m := ⟨9, 1⟩) (meth := k9m1) (c := k9c1) (by decide +kernel) rfl rfl rfl (by decide +kernel)
set_option maxRecDepth 65536 in
theorem w_c5 : (Jvm.Cond.code ({ cls := "java/lang/Long", name := "valueOf", desc := "(J)Ljava/lang/Long;" } : Jvm.MethodName) jdk_35_method_24_code (3 : Nat) (Option.some (Jvm.ClassFile.FieldType.object "java/lang/Long"))).before args0 about1 = true := code_word (m := ⟨11, 0⟩) (meth := k11m0) (c := k11c0) (by decide +kernel) rfl rfl rfl (by decide +kernel)
set_option maxRecDepth 65536 in
theorem w_c6 : (Jvm.Cond.code ({ cls := "com/example/vacant_throne/vacantthrone/core/Heartbeat", name := "equals", desc := "(Ljava/lang/Object;)Z" } : Jvm.MethodName) prog_8_method_12_code (3 : Nat) (Option.some Jvm.ClassFile.FieldType.boolean)).before args0 about1 = true := code_word (m := ⟨2, 1⟩) (meth := k2m1) (c := k2c1) (by decide +kernel) rfl rfl rfl (by decide +kernel)
set_option maxRecDepth 65536 in
theorem w_c7 : (Jvm.Cond.code ({ cls := "java/lang/Long", name := "<init>", desc := "(J)V" } : Jvm.MethodName) jdk_35_method_26_code (3 : Nat) (Option.none : Option Jvm.ClassFile.FieldType)).before args0 about1 = true := code_word (m := ⟨11, 1⟩) (meth := k11m1) (c := k11c1) (by decide +kernel) rfl rfl rfl (by decide +kernel)
set_option maxRecDepth 65536 in
theorem w_c8 : (Jvm.Cond.code ({ cls := "java/lang/Number", name := "<init>", desc := "()V" } : Jvm.MethodName) jdk_18_method_1_code (1 : Nat) (Option.none : Option Jvm.ClassFile.FieldType)).before args0 about1 = true := code_word (m := ⟨10, 0⟩) (meth := k10m0) (c := k10c0) (by decide +kernel) rfl rfl rfl (by decide +kernel)
def codes1 : List Jvm.Cond := [Jvm.Cond.code x code maxLocals ret, Jvm.Cond.code ({ cls := "com/example/vacant_throne/vacantthrone/core/HeartbeatEqualsPinLaw", name := "make", desc := "([J)Lcom/example/vacant_throne/vacantthrone/core/Heartbeat;" } : Jvm.MethodName) method_2_code (1 : Nat) (Option.some (Jvm.ClassFile.FieldType.object "com/example/vacant_throne/vacantthrone/core/Heartbeat")), Jvm.Cond.code ({ cls := "com/example/vacant_throne/vacantthrone/core/Heartbeat", name := "<init>", desc := "(ZIJIIJJJ)V" } : Jvm.MethodName) prog_8_method_1_code (13 : Nat) (Option.none : Option Jvm.ClassFile.FieldType), Jvm.Cond.code ({ cls := "java/lang/Object", name := "<init>", desc := "()V" } : Jvm.MethodName) object_method_1_code (1 : Nat) (Option.none : Option Jvm.ClassFile.FieldType), Jvm.Cond.code ({ cls := "com/example/vacant_throne/vacantthrone/core/Ranges", name := "require", desc := "(Ljava/lang/String;JJJ)J" } : Jvm.MethodName) prog_14_method_2_code (7 : Nat) (Option.some Jvm.ClassFile.FieldType.long), Jvm.Cond.code ({ cls := "java/lang/Long", name := "valueOf", desc := "(J)Ljava/lang/Long;" } : Jvm.MethodName) jdk_35_method_24_code (3 : Nat) (Option.some (Jvm.ClassFile.FieldType.object "java/lang/Long")), Jvm.Cond.code ({ cls := "com/example/vacant_throne/vacantthrone/core/Heartbeat", name := "equals", desc := "(Ljava/lang/Object;)Z" } : Jvm.MethodName) prog_8_method_12_code (3 : Nat) (Option.some Jvm.ClassFile.FieldType.boolean), Jvm.Cond.code ({ cls := "java/lang/Long", name := "<init>", desc := "(J)V" } : Jvm.MethodName) jdk_35_method_26_code (3 : Nat) (Option.none : Option Jvm.ClassFile.FieldType), Jvm.Cond.code ({ cls := "java/lang/Number", name := "<init>", desc := "()V" } : Jvm.MethodName) jdk_18_method_1_code (1 : Nat) (Option.none : Option Jvm.ClassFile.FieldType)]
set_option maxRecDepth 65536 in
theorem codes_eq : words1.filter isCode = codes1 := rfl
theorem w_codes : ∀ c ∈ words1.filter isCode, c.before args0 about1 = true := by
  rw [codes_eq]
  intro c hc
  simp only [codes1, List.mem_cons, List.not_mem_nil, or_false] at hc
  rcases hc with rfl | rfl | rfl | rfl | rfl | rfl | rfl | rfl | rfl
  · exact w_c0
  · exact w_c1
  · exact w_c2
  · exact w_c3
  · exact w_c4
  · exact w_c5
  · exact w_c6
  · exact w_c7
  · exact w_c8
set_option maxRecDepth 65536 in
theorem w_t1 : (words1.take 24).all (fun c => isCode c || c.before args0 about1) = true := by decide +kernel
set_option maxRecDepth 65536 in
theorem w_t2 : ((words1.drop 24).take 24).all (fun c => isCode c || c.before args0 about1) = true := by decide +kernel
set_option maxRecDepth 65536 in
theorem w_t3 : (((words1.drop 24).drop 24).take 24).all (fun c => isCode c || c.before args0 about1) = true := by decide +kernel
set_option maxRecDepth 65536 in
theorem w_t4 : (((words1.drop 24).drop 24).drop 24).all (fun c => isCode c || c.before args0 about1) = true := by decide +kernel
theorem w_tables : (allAtoms (Jvm.Cond.code x code maxLocals ret :: tables_1)).before args0 about1 = true := by
  rw [allAtoms_all]
  show words1.all (fun c => c.before args0 about1) = true
  refine all_split ?_ w_codes
  rw [← List.take_append_drop 24 words1, List.all_append, w_t1, ← List.take_append_drop 24 (words1.drop 24), List.all_append, w_t2, ← List.take_append_drop 24 ((words1.drop 24).drop 24), List.all_append, w_t3, w_t4]
  rfl
set_option maxRecDepth 65536 in
theorem w_rest : rest_1_c.before args0 about1 = true := by decide +kernel
set_option maxRecDepth 65536 in
theorem w_case : (Jvm.Cond.and given_1 narrow_1).before args0 about1 = true := by decide +kernel
theorem w_applies : (headSpec (Jvm.Cond.code x code maxLocals ret :: tables_1) room_1).applies x e0.platform about1 = true :=
  (Spec.applies_iff w_frames).mpr ⟨w_running, w_runnable, w_alone, w_named, w_hears, w_ripe, w_room, w_tables⟩
theorem atStart : AtStart classFile x code maxLocals ret World_1 tables_1 room_1 Calls_1 rest_1 Pre_1 launch0 p0 e0 about1 theMethod args0 below0 :=
  ⟨lists_1, trivial, launch0.admits_env _ _ _, launch0.least_env, fairChoices_fair.cas, fairChoices_fair.clock, w_frames, w_args, w_heap, w_applies, trivial, w_rest, w_case⟩
end start1
theorem witness_1 : WitnessClaimed_1 := ⟨start1.p0, start1.e0, start1.about1, start1.theMethod, start1.args0, start1.below0, start1.atStart⟩
end Jvm.Pilot.@@N@@
