import JvmDerived
import JvmDerived.Pilot.@@N@@Statement
import JvmDerived.Pilot.@@N@@Code
set_option linter.unusedVariables false
set_option linter.unusedSimpArgs false
namespace Jvm.Pilot.@@N@@
open Jvm Jvm.ClassFile Sem Op Lib Jvm.Free Jvm.Stand Jvm.LawKit Jvm.RoadKit Bundle Jvm.Pilot.@@N@@.Jvm.D
abbrev St (p : Program) (e : Env) (below : List Frame) (T : State) (g : JFrame) (t : State) : Prop := Steps p.tables e below (T.setTop g) t
theorem ww {Z : State} {a0 : Array Value} (hw : ∀ d ∈ tables_1, d.before a0 Z = true) {d : Jvm.Cond} (i : Nat) (h : tables_1[i]? = some d) : d.before a0 Z = true := hw _ (List.mem_of_getElem? h)
theorem ltI {a b : Int32} (h : a < b) : a.toInt < b.toInt := Int32.lt_iff_toInt_lt.mp h
theorem nltI {a b : Int32} (h : ¬ a < b) : ¬ a.toInt < b.toInt := mt Int32.lt_iff_toInt_lt.mpr h
theorem eqI {a b : Int32} (h : a = b) : a.toInt = b.toInt := congrArg Int32.toInt h
theorem neI {a b : Int32} (h : ¬ a = b) : ¬ a.toInt = b.toInt := mt Int32.toInt_inj.mp h
theorem ltJ {a b : Int64} (h : a < b) : a.toInt < b.toInt := Int64.lt_iff_toInt_lt.mp h
theorem nltJ {a b : Int64} (h : ¬ a < b) : ¬ a.toInt < b.toInt := mt Int64.lt_iff_toInt_lt.mpr h
theorem eqJ {a b : Int64} (h : a = b) : a.toInt = b.toInt := congrArg Int64.toInt h
theorem neJ {a b : Int64} (h : ¬ a = b) : ¬ a.toInt = b.toInt := mt Int64.toInt_inj.mp h
theorem own_eqI {args : Array Value} {s : State} {t : Term} {k : Int32} (h : (Jvm.Cond.eq t (.int k)).value args s none s [] = some true) : t.eval args s none [] s = some (.int k) := by
  obtain ⟨x, y, ex, ey, k1, k2⟩ := cmp_v (Or.inl h)
  obtain rfl : y = .int k := Option.some.inj (ey.symm.trans (Term.int_eval k))
  obtain ⟨z, rfl⟩ := k2
  rw [ex, gotT (Cond.eq_ints ex ey) h]
theorem own_eqJ {args : Array Value} {s : State} {t : Term} {k : Int64} (h : (Jvm.Cond.eq t (.long k)).value args s none s [] = some true) : t.eval args s none [] s = some (.long k) := by
  obtain ⟨x, y, ex, ey, k1, k2⟩ := cmp_v (Or.inl h)
  obtain rfl : y = .long k := Option.some.inj (ey.symm.trans (long_at k))
  obtain ⟨z, rfl⟩ := k2
  rw [ex, gotT (eq_L ex ey) h]
theorem own_eqR {args : Array Value} {s : State} {t u : Term} {b : Addr} (h : (Jvm.Cond.eq t u).value args s none s [] = some true) (hu : u.eval args s none [] s = some (.ref b)) : t.eval args s none [] s = some (.ref b) := by
  obtain ⟨x, y, ex, ey, k1, k2⟩ := cmp_v (Or.inl h)
  obtain rfl : y = .ref b := Option.some.inj (ey.symm.trans hu)
  have hx : x.isRef = true := k2.2
  rw [ex, gotT (eq_R ex ey hx rfl) h]
theorem own_len {args : Array Value} {s : State} {t : Term} {a : Addr} {cl : Cell} {ty : FieldType} {k : Int32} (ev : t.eval args s none [] s = some (.ref a)) (A : Arr s s.heap a cl ty) (h : (Term.length t).eval args s none [] s = some (.int k)) : cl.slots.size < 2 ^ 31 ∧ cl.slots.size.toInt32 = k := by
  have ha := A.fin (Vm.Alike.refl _)
  by_cases hl : cl.slots.size < 2 ^ 31
  · exact ⟨hl, Value.int.inj (Option.some.inj ((len_f ev ha hl).symm.trans h))⟩
  · exfalso; simp [Term.eval, ev, ha, hl] at h
theorem own_sel {Z : State} {a0 : Array Value} {y : MethodName} {n : Nat} (wi : (Jvm.Cond.instantiable y.cls n).before a0 Z = true) (wp : (Jvm.Cond.privateMethod y).before a0 Z = true) (wm : (Jvm.Cond.instanceMethod y).before a0 Z = true) (hy : y.cls ≠ "java/lang/invoke/MethodHandle" ∧ y.cls ≠ "java/lang/invoke/VarHandle") : (Jvm.Cond.selects y.cls y y).before a0 Z = true := by
  obtain ⟨c, k, h1, h2, h3, h4, -⟩ := Cond.instantiable_spec wi
  exact selects_self_of_private h1 h2 (by simp only [Bool.or_eq_false_iff] at h4; exact h4.1) (Cond.privateMethod_at wp) wm hy
def own_nz (x : Int64) : Int32 := if x = 0 then 0 else 1
theorem own_c_nz (x : Int64) : (x.toInt = 0 → (own_nz x).toInt = 0) ∧ (x.toInt ≠ 0 → (own_nz x).toInt = 1) := by
  unfold own_nz
  by_cases h : x = 0
  · subst h; exact ⟨fun _ => by decide, fun q => absurd (by decide) q⟩
  · rw [if_neg h]; exact ⟨fun q => absurd (Int64.toInt_inj.mp (q.trans (by decide : (0 : Int) = (0 : Int64).toInt))) h, fun _ => by decide⟩
theorem own_lrem {p : Program} {l : Launch} {e : Env} {R : Room} {s : State} {m : MethodId} {args : Array Value} {below : List Frame} {meth : Method} {c : Code} {T target : State} {locs : List Loc} {cells slots : Nat} {g : JFrame} (X : Stand p l e R s m args below meth c T locs cells slots) (hx : p.tables.exec = Jvm.exec) (hg : g.method = m) {x y : Int64} {rest : List Value} (hd : decode c.code g.pc = .ok (.lrem, 1)) (hs : g.stack = .long y :: .long x :: rest) (hy : y ≠ 0) (hr : Steps p.tables e below (T.setTop { g with pc := g.pc + 1, stack := .long (x % y) :: rest }) target) : Steps p.tables e below (T.setTop g) target :=
  XS.lrem X.here hx hg hd hs hy (by rw [lrem_mod]; exact hr)
theorem own_c_lrem (x y : Int64) (d : Int) (hy : y.toInt = d) : (0 ≤ x.toInt → (x % y).toInt = x.toInt % d) ∧ (x.toInt < 0 → (x % y).toInt = -((-x.toInt) % d)) := by
  rw [← lrem_mod]; exact c_lrem x y d hy
theorem own_old_le {Z : State} {n0 : Nat} {h : Heap} (O : Old Z n0 h) : n0 ≤ h.size := O.1 ▸ O.2.1
abbrev M0 : MethodName := ⟨"com/example/quadrille/quadrille/store/SortedTriples", "<init>", "()V"⟩
abbrev M1 : MethodName := ⟨"com/example/quadrille/quadrille/store/SortedTriples", "unshare", "()V"⟩
abbrev M2 : MethodName := ⟨"com/example/quadrille/quadrille/store/SortedTriples", "insertBlock", "(I[I)V"⟩
abbrev M3 : MethodName := ⟨"com/example/quadrille/quadrille/store/SortedTriples", "blockFor", "(III)I"⟩
abbrev M4 : MethodName := ⟨"com/example/quadrille/quadrille/store/SortedTriples", "search", "([IIIII)I"⟩
abbrev M5 : MethodName := ⟨"com/example/quadrille/quadrille/store/SortedTriples", "writable", "(I)[I"⟩
abbrev M6 : MethodName := ⟨"com/example/quadrille/quadrille/store/SortedTriples", "add", "(III)Z"⟩
abbrev M7 : MethodName := ⟨"java/lang/Integer", "compare", "(II)I"⟩
abbrev M8 : MethodName := ⟨"com/example/quadrille/quadrille/store/SortedTriples", "comparePrefix", "([IIIIII)I"⟩
abbrev M9 : MethodName := ⟨"com/example/quadrille/quadrille/store/SortedTriples", "clear", "()V"⟩
abbrev M10 : MethodName := ⟨"com/example/quadrille/quadrille/store/SortedTriples", "size", "()J"⟩
abbrev M11 : MethodName := ⟨"com/example/quadrille/quadrille/store/SortedTriples", "contains", "(III)Z"⟩
abbrev M12 : MethodName := ⟨"com/example/quadrille/quadrille/store/SortedTriples", "<init>", "([[I[IIJ)V"⟩
abbrev M13 : MethodName := ⟨"com/example/quadrille/quadrille/store/SortedTriples", "copy", "()Lcom/example/quadrille/quadrille/store/SortedTriples;"⟩
theorem lI1 : (1 : Int32).toInt = 1 := by decide
theorem lI0 : (0 : Int32).toInt = 0 := by decide
def own_cmp3 (a b c x y z : Int32) : Int32 := if a < x then -1 else if a = x then (if b < y then -1 else if b = y then (if c < z then -1 else if c = z then 0 else 1) else 1) else 1
def own_isz (x : Int32) : Int32 := if x = 0 then 1 else 0
theorem own_c_isz (x : Int32) : (x.toInt = 0 → (own_isz x).toInt = 1) ∧ (x.toInt ≠ 0 → (own_isz x).toInt = 0) := by
  unfold own_isz
  by_cases h : x = 0
  · subst h; exact ⟨fun _ => by decide, fun q => absurd (by decide) q⟩
  · rw [if_neg h]; exact ⟨fun q => absurd (Int32.toInt_inj.mp (q.trans (by decide : (0 : Int) = (0 : Int32).toInt))) h, fun _ => by decide⟩
theorem own_cmp3_r (a b c x y z : Int32) : -1 ≤ (own_cmp3 a b c x y z).toInt ∧ (own_cmp3 a b c x y z).toInt ≤ 1 := by
  unfold own_cmp3
  have m1 : (-1 : Int32).toInt = -1 := by decide
  have p1 : (1 : Int32).toInt = 1 := by decide
  have z0 : (0 : Int32).toInt = 0 := by decide
  (repeat' split) <;> omega
theorem own_cmp3_s (a b c : Int32) : (own_cmp3 a b c a b c).toInt = 0 := by
  unfold own_cmp3
  rw [if_neg Int32.lt_irrefl, if_pos rfl, if_neg Int32.lt_irrefl, if_pos rfl, if_neg Int32.lt_irrefl, if_pos rfl]; decide
theorem own_cmp3_a (a b c x y z : Int32) : (own_cmp3 a b c x y z).toInt = -(own_cmp3 x y z a b c).toInt := by
  unfold own_cmp3
  simp only [Int32.lt_iff_toInt_lt, ← Int32.toInt_inj]
  have m1 : (-1 : Int32).toInt = -1 := by decide
  have p1 : (1 : Int32).toInt = 1 := by decide
  have z0 : (0 : Int32).toInt = 0 := by decide
  rcases Int.lt_trichotomy a.toInt x.toInt with h | h | h
  · rw [if_pos h, if_neg (by omega : ¬ x.toInt < a.toInt), if_neg (by omega : ¬ x.toInt = a.toInt)]; omega
  · rw [if_neg (by omega : ¬ a.toInt < x.toInt), if_pos h, if_neg (by omega : ¬ x.toInt < a.toInt), if_pos h.symm]
    rcases Int.lt_trichotomy b.toInt y.toInt with k | k | k
    · rw [if_pos k, if_neg (by omega : ¬ y.toInt < b.toInt), if_neg (by omega : ¬ y.toInt = b.toInt)]; omega
    · rw [if_neg (by omega : ¬ b.toInt < y.toInt), if_pos k, if_neg (by omega : ¬ y.toInt < b.toInt), if_pos k.symm]
      rcases Int.lt_trichotomy c.toInt z.toInt with q | q | q
      · rw [if_pos q, if_neg (by omega : ¬ z.toInt < c.toInt), if_neg (by omega : ¬ z.toInt = c.toInt)]; omega
      · rw [if_neg (by omega : ¬ c.toInt < z.toInt), if_pos q, if_neg (by omega : ¬ z.toInt < c.toInt), if_pos q.symm]; omega
      · rw [if_neg (by omega : ¬ c.toInt < z.toInt), if_neg (by omega : ¬ c.toInt = z.toInt), if_pos q]; omega
    · rw [if_neg (by omega : ¬ b.toInt < y.toInt), if_neg (by omega : ¬ b.toInt = y.toInt), if_pos k]; omega
  · rw [if_neg (by omega : ¬ a.toInt < x.toInt), if_neg (by omega : ¬ a.toInt = x.toInt), if_pos h]; omega
theorem own_cmp3_z (a b c x y z : Int32) : (a.toInt = x.toInt → b.toInt = y.toInt → c.toInt = z.toInt → (own_cmp3 a b c x y z).toInt = 0) ∧ ((own_cmp3 a b c x y z).toInt = 0 → a.toInt = x.toInt ∧ b.toInt = y.toInt ∧ c.toInt = z.toInt) := by
  constructor
  · intro h k q
    obtain rfl := Int32.toInt_inj.mp h
    obtain rfl := Int32.toInt_inj.mp k
    obtain rfl := Int32.toInt_inj.mp q
    exact own_cmp3_s a b c
  · intro h
    unfold own_cmp3 at h
    by_cases g1 : a < x
    · rw [if_pos g1] at h; exact absurd h (by decide)
    · rw [if_neg g1] at h
      by_cases g2 : a = x
      · rw [if_pos g2] at h
        by_cases g3 : b < y
        · rw [if_pos g3] at h; exact absurd h (by decide)
        · rw [if_neg g3] at h
          by_cases g4 : b = y
          · rw [if_pos g4] at h
            by_cases g5 : c < z
            · rw [if_pos g5] at h; exact absurd h (by decide)
            · rw [if_neg g5] at h
              by_cases g6 : c = z
              · exact ⟨congrArg _ g2, congrArg _ g4, congrArg _ g6⟩
              · rw [if_neg g6] at h; exact absurd h (by decide)
          · rw [if_neg g4] at h; exact absurd h (by decide)
      · rw [if_neg g2] at h; exact absurd h (by decide)
theorem ef0 (m : MethodId) (x0 : Int32) (x1 : Int32) (x2 : Int32) (x3 : Int32) (x4 : Int32) (x5 : Int32) : entryFrame m #[(.int x0), (.int x1), (.int x2), (.int x3), (.int x4), (.int x5)] maxLocals = mkF m 0 #[.val (.int x0), .val (.int x1), .val (.int x2), .val (.int x3), .val (.int x4), .val (.int x5), .unset, .unset, .unset, .unset, .unset, .unset, .unset, .unset, .unset] [] := by first | (simp [entryFrame, mkF, argsToLocals, Value.category, maxLocals]; done) | rfl
theorem pn0 : plainName "com/example/quadrille/quadrille/store/SortedTriplesClearPinLaw" = true := by first | (simp [plainName, overriddenIn]; done) | decide +kernel
theorem ar0 {x0 : Int32} {x1 : Int32} {x2 : Int32} {x3 : Int32} {x4 : Int32} (h0 : x0 = x1) (h1 : x2 = x3) (h2 : x4 = x0) (h3 : ¬ ((1 : Int32) = (own_isz (own_cmp3 x0 x2 x4 x1 x3 x0)))) : False := by
  have q1_ := eqI h0
  have q2_ := eqI h1
  have q3_ := eqI h2
  have q4_ := neI h3
  have l5_ := rng32 x0
  have l6_ := rng32 x1
  have l7_ := rng32 x2
  have l8_ := rng32 x3
  have l9_ := rng32 x4
  have l10_ := lI1
  have l11_ := own_cmp3_r x0 x2 x4 x1 x3 x0
  have l11z_ := own_cmp3_z x0 x2 x4 x1 x3 x0
  have l12_ := own_c_isz (own_cmp3 x0 x2 x4 x1 x3 x0)
  omega
theorem ar1 {x0 : Int32} {x1 : Int32} {x2 : Int32} {x3 : Int32} {x4 : Int32} (h0 : ¬ (x0 = x1)) (h1 : ¬ ((0 : Int32) = (own_isz (own_cmp3 x1 x2 x0 x3 x4 x1)))) : False := by
  have q1_ := neI h0
  have q2_ := neI h1
  have l3_ := rng32 x0
  have l4_ := rng32 x1
  have l5_ := lI0
  have l6_ := rng32 x2
  have l7_ := rng32 x3
  have l8_ := rng32 x4
  have l9_ := own_cmp3_r x1 x2 x0 x3 x4 x1
  have l9z_ := own_cmp3_z x1 x2 x0 x3 x4 x1
  have l10_ := own_c_isz (own_cmp3 x1 x2 x0 x3 x4 x1)
  omega
theorem ar2 {x0 : Int32} {x1 : Int32} {x2 : Int32} {x3 : Int32} {x4 : Int32} (h0 : ¬ (x0 = x1)) (h1 : ¬ ((0 : Int32) = (own_isz (own_cmp3 x2 x0 x3 x4 x1 x2)))) : False := by
  have q1_ := neI h0
  have q2_ := neI h1
  have l3_ := rng32 x0
  have l4_ := rng32 x1
  have l5_ := lI0
  have l6_ := rng32 x2
  have l7_ := rng32 x3
  have l8_ := rng32 x4
  have l9_ := own_cmp3_r x2 x0 x3 x4 x1 x2
  have l9z_ := own_cmp3_z x2 x0 x3 x4 x1 x2
  have l10_ := own_c_isz (own_cmp3 x2 x0 x3 x4 x1 x2)
  omega
theorem ar3 {x0 : Int32} {x1 : Int32} {x2 : Int32} {x3 : Int32} {x4 : Int32} (h0 : ¬ (x0 = x1)) (h1 : ¬ ((0 : Int32) = (own_isz (own_cmp3 x0 x2 x3 x1 x4 x0)))) : False := by
  have q1_ := neI h0
  have q2_ := neI h1
  have l3_ := rng32 x0
  have l4_ := rng32 x1
  have l5_ := lI0
  have l6_ := rng32 x2
  have l7_ := rng32 x3
  have l8_ := rng32 x4
  have l9_ := own_cmp3_r x0 x2 x3 x1 x4 x0
  have l9z_ := own_cmp3_z x0 x2 x3 x1 x4 x0
  have l10_ := own_c_isz (own_cmp3 x0 x2 x3 x1 x4 x0)
  omega
theorem ef1 (m : MethodId) (x0 : Addr) : entryFrame m #[(.ref x0)] 1 = mkF m 0 #[.val (.ref x0)] [] := by first | (simp [entryFrame, mkF, argsToLocals, Value.category]; done) | rfl
theorem pn1 : plainName "com/example/quadrille/quadrille/store/SortedTriples" = true := by first | (simp [plainName, overriddenIn]; done) | decide +kernel
theorem d1_0 : decode prog_155_method_1_code 0 = .ok (.aload_n 0, 1) := by decide +kernel
theorem d1_1 : decode prog_155_method_1_code 1 = .ok (.invokespecial 3, 3) := by decide +kernel
theorem d1_4 : decode prog_155_method_1_code 4 = .ok (.aload_n 0, 1) := by decide +kernel
theorem d1_5 : decode prog_155_method_1_code 5 = .ok (.iconst 4, 1) := by decide +kernel
theorem d1_6 : decode prog_155_method_1_code 6 = .ok (.anewarray 9, 3) := by decide +kernel
theorem d1_9 : decode prog_155_method_1_code 9 = .ok (.putfield 11, 3) := by decide +kernel
theorem sn0 {Z : State} {a0 : Array Value} (hw : ∀ d ∈ tables_1, d.before a0 Z = true) : Jvm.RoadKit.slotOf Z "com/example/quadrille/quadrille/store/SortedTriples" "counts" "[I" ≠ Jvm.RoadKit.slotOf Z "com/example/quadrille/quadrille/store/SortedTriples" "blocks" "[[I" := slot_ne (Or.inl (ww hw 15 rfl)) (Or.inl (ww hw 12 rfl)) (by decide) (t := (.array .int)) (t' := (.array (.array .int))) (by decide) (by decide)
theorem sn1 {Z : State} {a0 : Array Value} (hw : ∀ d ∈ tables_1, d.before a0 Z = true) : Jvm.RoadKit.slotOf Z "com/example/quadrille/quadrille/store/SortedTriples" "owned" "[Z" ≠ Jvm.RoadKit.slotOf Z "com/example/quadrille/quadrille/store/SortedTriples" "blocks" "[[I" := slot_ne (Or.inl (ww hw 18 rfl)) (Or.inl (ww hw 12 rfl)) (by decide) (t := (.array .boolean)) (t' := (.array (.array .int))) (by decide) (by decide)
theorem sn2 {Z : State} {a0 : Array Value} (hw : ∀ d ∈ tables_1, d.before a0 Z = true) : Jvm.RoadKit.slotOf Z "com/example/quadrille/quadrille/store/SortedTriples" "shared" "Z" ≠ Jvm.RoadKit.slotOf Z "com/example/quadrille/quadrille/store/SortedTriples" "blocks" "[[I" := slot_ne (Or.inl (ww hw 29 rfl)) (Or.inl (ww hw 12 rfl)) (by decide) (t := .boolean) (t' := (.array (.array .int))) (by decide) (by decide)
theorem sn3 {Z : State} {a0 : Array Value} (hw : ∀ d ∈ tables_1, d.before a0 Z = true) : Jvm.RoadKit.slotOf Z "com/example/quadrille/quadrille/store/SortedTriples" "blockCount" "I" ≠ Jvm.RoadKit.slotOf Z "com/example/quadrille/quadrille/store/SortedTriples" "blocks" "[[I" := slot_ne (Or.inl (ww hw 31 rfl)) (Or.inl (ww hw 12 rfl)) (by decide) (t := .int) (t' := (.array (.array .int))) (by decide) (by decide)
theorem sn4 {Z : State} {a0 : Array Value} (hw : ∀ d ∈ tables_1, d.before a0 Z = true) : Jvm.RoadKit.slotOf Z "com/example/quadrille/quadrille/store/SortedTriples" "size" "J" ≠ Jvm.RoadKit.slotOf Z "com/example/quadrille/quadrille/store/SortedTriples" "blocks" "[[I" := slot_ne (Or.inl (ww hw 53 rfl)) (Or.inl (ww hw 12 rfl)) (by decide) (t := .long) (t' := (.array (.array .int))) (by decide) (by decide)
theorem d1_12 : decode prog_155_method_1_code 12 = .ok (.aload_n 0, 1) := by decide +kernel
theorem d1_13 : decode prog_155_method_1_code 13 = .ok (.iconst 4, 1) := by decide +kernel
theorem d1_14 : decode prog_155_method_1_code 14 = .ok (.newarray .int, 2) := by decide +kernel
theorem d1_16 : decode prog_155_method_1_code 16 = .ok (.putfield 15, 3) := by decide +kernel
theorem sn5 {Z : State} {a0 : Array Value} (hw : ∀ d ∈ tables_1, d.before a0 Z = true) : Jvm.RoadKit.slotOf Z "com/example/quadrille/quadrille/store/SortedTriples" "blocks" "[[I" ≠ Jvm.RoadKit.slotOf Z "com/example/quadrille/quadrille/store/SortedTriples" "counts" "[I" := slot_ne (Or.inl (ww hw 12 rfl)) (Or.inl (ww hw 15 rfl)) (by decide) (t := (.array (.array .int))) (t' := (.array .int)) (by decide) (by decide)
theorem sn6 {Z : State} {a0 : Array Value} (hw : ∀ d ∈ tables_1, d.before a0 Z = true) : Jvm.RoadKit.slotOf Z "com/example/quadrille/quadrille/store/SortedTriples" "owned" "[Z" ≠ Jvm.RoadKit.slotOf Z "com/example/quadrille/quadrille/store/SortedTriples" "counts" "[I" := slot_ne (Or.inl (ww hw 18 rfl)) (Or.inl (ww hw 15 rfl)) (by decide) (t := (.array .boolean)) (t' := (.array .int)) (by decide) (by decide)
theorem sn7 {Z : State} {a0 : Array Value} (hw : ∀ d ∈ tables_1, d.before a0 Z = true) : Jvm.RoadKit.slotOf Z "com/example/quadrille/quadrille/store/SortedTriples" "shared" "Z" ≠ Jvm.RoadKit.slotOf Z "com/example/quadrille/quadrille/store/SortedTriples" "counts" "[I" := slot_ne (Or.inl (ww hw 29 rfl)) (Or.inl (ww hw 15 rfl)) (by decide) (t := .boolean) (t' := (.array .int)) (by decide) (by decide)
theorem sn8 {Z : State} {a0 : Array Value} (hw : ∀ d ∈ tables_1, d.before a0 Z = true) : Jvm.RoadKit.slotOf Z "com/example/quadrille/quadrille/store/SortedTriples" "blockCount" "I" ≠ Jvm.RoadKit.slotOf Z "com/example/quadrille/quadrille/store/SortedTriples" "counts" "[I" := slot_ne (Or.inl (ww hw 31 rfl)) (Or.inl (ww hw 15 rfl)) (by decide) (t := .int) (t' := (.array .int)) (by decide) (by decide)
theorem sn9 {Z : State} {a0 : Array Value} (hw : ∀ d ∈ tables_1, d.before a0 Z = true) : Jvm.RoadKit.slotOf Z "com/example/quadrille/quadrille/store/SortedTriples" "size" "J" ≠ Jvm.RoadKit.slotOf Z "com/example/quadrille/quadrille/store/SortedTriples" "counts" "[I" := slot_ne (Or.inl (ww hw 53 rfl)) (Or.inl (ww hw 15 rfl)) (by decide) (t := .long) (t' := (.array .int)) (by decide) (by decide)
theorem d1_19 : decode prog_155_method_1_code 19 = .ok (.aload_n 0, 1) := by decide +kernel
theorem d1_20 : decode prog_155_method_1_code 20 = .ok (.iconst 4, 1) := by decide +kernel
theorem d1_21 : decode prog_155_method_1_code 21 = .ok (.newarray .boolean, 2) := by decide +kernel
theorem d1_23 : decode prog_155_method_1_code 23 = .ok (.putfield 18, 3) := by decide +kernel
theorem sn10 {Z : State} {a0 : Array Value} (hw : ∀ d ∈ tables_1, d.before a0 Z = true) : Jvm.RoadKit.slotOf Z "com/example/quadrille/quadrille/store/SortedTriples" "blocks" "[[I" ≠ Jvm.RoadKit.slotOf Z "com/example/quadrille/quadrille/store/SortedTriples" "owned" "[Z" := slot_ne (Or.inl (ww hw 12 rfl)) (Or.inl (ww hw 18 rfl)) (by decide) (t := (.array (.array .int))) (t' := (.array .boolean)) (by decide) (by decide)
theorem sn11 {Z : State} {a0 : Array Value} (hw : ∀ d ∈ tables_1, d.before a0 Z = true) : Jvm.RoadKit.slotOf Z "com/example/quadrille/quadrille/store/SortedTriples" "counts" "[I" ≠ Jvm.RoadKit.slotOf Z "com/example/quadrille/quadrille/store/SortedTriples" "owned" "[Z" := slot_ne (Or.inl (ww hw 15 rfl)) (Or.inl (ww hw 18 rfl)) (by decide) (t := (.array .int)) (t' := (.array .boolean)) (by decide) (by decide)
theorem sn12 {Z : State} {a0 : Array Value} (hw : ∀ d ∈ tables_1, d.before a0 Z = true) : Jvm.RoadKit.slotOf Z "com/example/quadrille/quadrille/store/SortedTriples" "shared" "Z" ≠ Jvm.RoadKit.slotOf Z "com/example/quadrille/quadrille/store/SortedTriples" "owned" "[Z" := slot_ne (Or.inl (ww hw 29 rfl)) (Or.inl (ww hw 18 rfl)) (by decide) (t := .boolean) (t' := (.array .boolean)) (by decide) (by decide)
theorem sn13 {Z : State} {a0 : Array Value} (hw : ∀ d ∈ tables_1, d.before a0 Z = true) : Jvm.RoadKit.slotOf Z "com/example/quadrille/quadrille/store/SortedTriples" "blockCount" "I" ≠ Jvm.RoadKit.slotOf Z "com/example/quadrille/quadrille/store/SortedTriples" "owned" "[Z" := slot_ne (Or.inl (ww hw 31 rfl)) (Or.inl (ww hw 18 rfl)) (by decide) (t := .int) (t' := (.array .boolean)) (by decide) (by decide)
theorem sn14 {Z : State} {a0 : Array Value} (hw : ∀ d ∈ tables_1, d.before a0 Z = true) : Jvm.RoadKit.slotOf Z "com/example/quadrille/quadrille/store/SortedTriples" "size" "J" ≠ Jvm.RoadKit.slotOf Z "com/example/quadrille/quadrille/store/SortedTriples" "owned" "[Z" := slot_ne (Or.inl (ww hw 53 rfl)) (Or.inl (ww hw 18 rfl)) (by decide) (t := .long) (t' := (.array .boolean)) (by decide) (by decide)
theorem d1_26 : decode prog_155_method_1_code 26 = .ok (.return_, 1) := by decide +kernel
def Q1_0 (Z : State) (b0 : Addr) (h0 : Heap) (n0 : Nat) (v : Option Value) (h : Heap) (L : List Loc) : Prop := Fr n0 L ∧ ((∃ (o5 : Addr) (o34 : Addr) (o66 : Addr) (k5 : ClassId) (k34 : ClassId) (k66 : ClassId), v = none ∧ Keep h0 h [b0] ∧ n0 ≤ o5 ∧ h0.size ≤ o5 ∧ n0 ≤ o34 ∧ h0.size ≤ o34 ∧ n0 ≤ o66 ∧ h0.size ≤ o66 ∧ o5 ≠ o34 ∧ o5 ≠ o66 ∧ o34 ≠ o66 ∧ Exa Z h b0 "com/example/quadrille/quadrille/store/SortedTriples" ∧ Fld Z h b0 "com/example/quadrille/quadrille/store/SortedTriples" "blocks" "[[I" (.ref o5) ∧ Fld Z h b0 "com/example/quadrille/quadrille/store/SortedTriples" "counts" "[I" (.ref o34) ∧ Fld Z h b0 "com/example/quadrille/quadrille/store/SortedTriples" "owned" "[Z" (.ref o66) ∧ Fld Z h b0 "com/example/quadrille/quadrille/store/SortedTriples" "shared" "Z" (.int (0 : Int32)) ∧ Fld Z h b0 "com/example/quadrille/quadrille/store/SortedTriples" "blockCount" "I" (.int (0 : Int32)) ∧ Fld Z h b0 "com/example/quadrille/quadrille/store/SortedTriples" "size" "J" (.long (0 : Int64)) ∧ Arv Z h o5 k5 (.array .int) (4 : Int32) [.null, .null, .null, .null] .null ∧ Exa Z h o5 "[[I" ∧ OvrA Z k5 .int "[I" ∧ Arv Z h o34 k34 .int (4 : Int32) [(.int (0 : Int32)), (.int (0 : Int32)), (.int (0 : Int32)), (.int (0 : Int32))] (.int (0 : Int32)) ∧ Exa Z h o34 "[I" ∧ Arv Z h o66 k66 .boolean (4 : Int32) [(.int (0 : Int32)), (.int (0 : Int32)), (.int (0 : Int32)), (.int (0 : Int32))] (.int (0 : Int32)) ∧ Exa Z h o66 "[Z"))
set_option maxRecDepth 65536 in
set_option maxHeartbeats 40000000 in
theorem rm1_0 (l : Launch) (Z : State) (a0 : Array Value) (hw : ∀ d ∈ tables_1, d.before a0 Z = true) (ws : List Jvm.Cond) (b0 : Addr) (h0 : Heap) (n0 : Nat) (O0 : Old Z n0 h0)  (g_b0 : n0 ≤ b0) (f0 : Exa Z h0 b0 "com/example/quadrille/quadrille/store/SortedTriples") (f1 : Fld Z h0 b0 "com/example/quadrille/quadrille/store/SortedTriples" "blocks" "[[I" .null) (f2 : Fld Z h0 b0 "com/example/quadrille/quadrille/store/SortedTriples" "counts" "[I" .null) (f3 : Fld Z h0 b0 "com/example/quadrille/quadrille/store/SortedTriples" "owned" "[Z" .null) (f4 : Fld Z h0 b0 "com/example/quadrille/quadrille/store/SortedTriples" "shared" "Z" (.int (0 : Int32))) (f5 : Fld Z h0 b0 "com/example/quadrille/quadrille/store/SortedTriples" "blockCount" "I" (.int (0 : Int32))) (f6 : Fld Z h0 b0 "com/example/quadrille/quadrille/store/SortedTriples" "size" "J" (.long (0 : Int64))) :
    MetFree l M0 (head1 (Jvm.Cond.code M0 prog_155_method_1_code 1 none :: ws) ({ frames := 1, cells := 3, slots := 12, locals := 12 } : Room)) (fun a U => a = #[(.ref b0)] ∧ Z.Warmed39 U.vm ∧ U.heap = h0) (fun _ _ _ _ _ => True) (fun _ U o U' => ∃ v L, o = .returned v ∧ Q1_0 Z b0 h0 n0 v U'.heap L ∧ FrameEnd U o U' L ({ frames := 1, cells := 3, slots := 12, locals := 12 } : Room).cells ({ frames := 1, cells := 3, slots := 12, locals := 12 } : Room).slots) := by
 refine MetFree.of_bodySF (plainFor_of_name pn1) hisR ?_
 intro p e s m args below meth c s₁ Bd hml0 hP hK
 obtain ⟨rfl, hZ, hh⟩ := hP
 have hx := Bd.exec
 have hby := Bd.bytes
 have hml : c.maxLocals = 1 := hml0
 have hown : s.vm.findClass "com/example/quadrille/quadrille/store/SortedTriples" = some m.cls := findClass_of_methodNamed Bd.named
 have hnm := (name_of_methodNamed Bd.named Bd.method).1
 have X0 : Stand p l e ({ frames := 1, cells := 3, slots := 12, locals := 12 } : Room) s m #[(.ref b0)] below meth c s₁ [] 0 0 := Stand.of_body Bd
 have e0 : s₁.heap = h0 := by rw [← hh, Bd.state]; rfl
 have N0 := Fr.nil n0
 let S0 : State → Prop := fun t => Steps p.tables e below (s₁.setTop (entryFrame m #[(.ref b0)] 1)) t
 have p0 : ∀ t, St p e below s₁ (mkF m 0 #[.val (.ref b0)] []) t → S0 t := fun t k => castTop (ef1 m b0) k
 have p1 : ∀ t, St p e below s₁ (mkF m 1 #[.val (.ref b0)] [(.ref b0)]) t → S0 t := fun t k => p0 t (by
   refine XS.aloadN X0.here hx rfl (hb hby d1_0) rfl rfl ?_
   exact k)
 obtain ⟨T2, X2, e2, st2⟩ := initO X0 hx hZ hown (ww hw 6 rfl) (ww hw 7 rfl) (ww hw 8 rfl) e0 (g := (mkF m 1 #[.val (.ref b0)] [(.ref b0)])) rfl (by rw [hml]; rfl) rfl (hb hby d1_1) (by decide) (W := 0) (by show 2 * 0 + _ ≤ _; exact Nat.le_of_eq rfl) (by decide)
 have p3 : ∀ t, St p e below T2 (mkF m 4 #[.val (.ref b0)] []) t → S0 t := fun t k => p1 t (st2 t k)
 have p4 : ∀ t, St p e below T2 (mkF m 6 #[.val (.ref b0)] [(.int (4 : Int32)), (.ref b0)]) t → S0 t := fun t k => p3 t (by
   refine XS.aloadN X2.here hx rfl (hb hby d1_4) rfl rfl ?_
   refine XT.iconstV X2.here hx rfl (4 : Int32) (hb hby d1_5) (by decide) ?_
   exact k)
 obtain ⟨T5, h5, k5, X5, e5, E5, A5, Ea5, Ov5, st5⟩ := newRA X2 hx hZ (ty := .int) hown (by decide) (ww hw 9 rfl) (ww hw 10 rfl) e2 (g := (mkF m 6 #[.val (.ref b0)] [(.int (4 : Int32)), (.ref b0)])) rfl (hb hby d1_6) rfl (by decide) (cap := 4) (by decide) (by decide) (by decide) (by decide) (ad := "[[I") (by decide)
 obtain ⟨o5, gq5⟩ : ∃ z, z = (h0).size := ⟨_, rfl⟩
 rw [← gq5] at A5 Ea5 st5
 have gb_o5 : n0 ≤ o5 := Nat.le_trans (own_old_le O0) (Nat.le_of_eq gq5.symm)
 have sz_o5 : h0.size ≤ o5 := Nat.le_trans ((Keep.refl h0 [b0])).1 (Nat.le_of_eq gq5.symm)
 have ne_b0_o5 : b0 ≠ o5 := Nat.ne_of_lt (Nat.lt_of_lt_of_le f0.lt (Nat.le_of_eq gq5.symm))
 have E_6 := f0.ext E5
 have F_7 := f1.ext E5
 have F_8 := f2.ext E5
 have F_9 := f3.ext E5
 have F_10 := f4.ext E5
 have F_11 := f5.ext E5
 have F_12 := f6.ext E5
 have O13 := O0.ext E5
 have K14 := (Keep.refl h0 [b0]).ext E5
 have V_15 : Arv Z h5 o5 k5 (.array .int) (4 : Int32) [.null, .null, .null, .null] .null := (Arv.new A5 (by decide)).pad (pad_rep [] .null 4)
 have E_16 : Exa Z h5 o5 "[[I" := Ea5
 have O_17 : OvrA Z k5 .int "[I" := Ov5
 have p18 : ∀ t, St p e below T5 (mkF m 9 #[.val (.ref b0)] [(.ref o5), (.ref b0)]) t → S0 t := fun t k => p4 t (st5 t k)
 obtain ⟨T19, h19, X19, e19, W19, st19⟩ := putF X5 hx hZ hown (host := "") (Or.inl (ww hw 11 rfl)) Via.refl e5 F_7 E_6 (Or.inl (ww hw 12 rfl)) (ww hw 1 rfl) (ty := (.array (.array .int))) (by decide) rfl rfl (g := (mkF m 9 #[.val (.ref b0)] [(.ref o5), (.ref b0)])) rfl rfl (hb hby d1_9)
 have E_20 := E_6.wr W19
 have F_21 := F_8.other W19 (Or.inr (sn0 hw))
 have F_22 := F_9.other W19 (Or.inr (sn1 hw))
 have F_23 := F_10.other W19 (Or.inr (sn2 hw))
 have F_24 := F_11.other W19 (Or.inr (sn3 hw))
 have F_25 := F_12.other W19 (Or.inr (sn4 hw))
 have V_26 := V_15.other W19 (Ne.symm ne_b0_o5)
 have E_27 := E_16.wr W19
 have O28 := O13.wr W19 g_b0
 have K29 := K14.wr W19 (Or.inl (List.mem_of_getElem? (i := 0) rfl))
 have F_30 : Fld Z h19 b0 "com/example/quadrille/quadrille/store/SortedTriples" "blocks" "[[I" (.ref o5) := F_7.same W19
 have N31 := Fr.snoc X19 N0 g_b0
 have p32 : ∀ t, St p e below T19 (mkF m 12 #[.val (.ref b0)] []) t → S0 t := fun t k => p18 t (st19 t k)
 have p33 : ∀ t, St p e below T19 (mkF m 14 #[.val (.ref b0)] [(.int (4 : Int32)), (.ref b0)]) t → S0 t := fun t k => p32 t (by
   refine XS.aloadN X19.here hx rfl (hb hby d1_12) rfl rfl ?_
   refine XT.iconstV X19.here hx rfl (4 : Int32) (hb hby d1_13) (by decide) ?_
   exact k)
 obtain ⟨T34, h34, k34, X34, e34, E34, A34, Ea34, st34⟩ := newPE X19 hx hZ (ww hw 13 rfl) e19 (g := (mkF m 14 #[.val (.ref b0)] [(.int (4 : Int32)), (.ref b0)])) rfl (hb hby d1_14) rfl (by decide) (cap := 4) (by decide) (by decide) (by decide) (by decide) (ad := "[I") (by decide)
 obtain ⟨o34, gq34⟩ : ∃ z, z = (h19).size := ⟨_, rfl⟩
 rw [← gq34] at A34 Ea34 st34
 have gb_o34 : n0 ≤ o34 := Nat.le_trans (own_old_le O28) (Nat.le_of_eq gq34.symm)
 have sz_o34 : h0.size ≤ o34 := Nat.le_trans (K29).1 (Nat.le_of_eq gq34.symm)
 have ne_b0_o34 : b0 ≠ o34 := Nat.ne_of_lt (Nat.lt_of_lt_of_le E_20.lt (Nat.le_of_eq gq34.symm))
 have ne_o5_o34 : o5 ≠ o34 := Nat.ne_of_lt (Nat.lt_of_lt_of_le V_26.lt (Nat.le_of_eq gq34.symm))
 have E_35 := E_20.ext E34
 have F_36 := F_30.ext E34
 have F_37 := F_21.ext E34
 have F_38 := F_22.ext E34
 have F_39 := F_23.ext E34
 have F_40 := F_24.ext E34
 have F_41 := F_25.ext E34
 have V_42 := V_26.ext E34
 have E_43 := E_27.ext E34
 have O44 := O28.ext E34
 have K45 := K29.ext E34
 have V_46 : Arv Z h34 o34 k34 .int (4 : Int32) [(.int (0 : Int32)), (.int (0 : Int32)), (.int (0 : Int32)), (.int (0 : Int32))] (.int (0 : Int32)) := (Arv.new A34 (by decide)).pad (pad_rep [] (.int (0 : Int32)) 4)
 have E_47 : Exa Z h34 o34 "[I" := Ea34
 have p48 : ∀ t, St p e below T34 (mkF m 16 #[.val (.ref b0)] [(.ref o34), (.ref b0)]) t → S0 t := fun t k => p33 t (st34 t k)
 obtain ⟨T49, h49, X49, e49, W49, st49⟩ := putF X34 hx hZ hown (host := "") (Or.inl (ww hw 14 rfl)) Via.refl e34 F_37 E_35 (Or.inl (ww hw 15 rfl)) (ww hw 1 rfl) (ty := (.array .int)) (by decide) rfl rfl (g := (mkF m 16 #[.val (.ref b0)] [(.ref o34), (.ref b0)])) rfl rfl (hb hby d1_16)
 have E_50 := E_35.wr W49
 have F_51 := F_36.other W49 (Or.inr (sn5 hw))
 have F_52 := F_38.other W49 (Or.inr (sn6 hw))
 have F_53 := F_39.other W49 (Or.inr (sn7 hw))
 have F_54 := F_40.other W49 (Or.inr (sn8 hw))
 have F_55 := F_41.other W49 (Or.inr (sn9 hw))
 have V_56 := V_42.other W49 (Ne.symm ne_b0_o5)
 have E_57 := E_43.wr W49
 have V_58 := V_46.other W49 (Ne.symm ne_b0_o34)
 have E_59 := E_47.wr W49
 have O60 := O44.wr W49 g_b0
 have K61 := K45.wr W49 (Or.inl (List.mem_of_getElem? (i := 0) rfl))
 have F_62 : Fld Z h49 b0 "com/example/quadrille/quadrille/store/SortedTriples" "counts" "[I" (.ref o34) := F_37.same W49
 have N63 := Fr.snoc X49 N31 g_b0
 have p64 : ∀ t, St p e below T49 (mkF m 19 #[.val (.ref b0)] []) t → S0 t := fun t k => p48 t (st49 t k)
 have p65 : ∀ t, St p e below T49 (mkF m 21 #[.val (.ref b0)] [(.int (4 : Int32)), (.ref b0)]) t → S0 t := fun t k => p64 t (by
   refine XS.aloadN X49.here hx rfl (hb hby d1_19) rfl rfl ?_
   refine XT.iconstV X49.here hx rfl (4 : Int32) (hb hby d1_20) (by decide) ?_
   exact k)
 obtain ⟨T66, h66, k66, X66, e66, E66, A66, Ea66, st66⟩ := newPE X49 hx hZ (ww hw 16 rfl) e49 (g := (mkF m 21 #[.val (.ref b0)] [(.int (4 : Int32)), (.ref b0)])) rfl (hb hby d1_21) rfl (by decide) (cap := 4) (by decide) (by decide) (by decide) (by decide) (ad := "[Z") (by decide)
 obtain ⟨o66, gq66⟩ : ∃ z, z = (h49).size := ⟨_, rfl⟩
 rw [← gq66] at A66 Ea66 st66
 have gb_o66 : n0 ≤ o66 := Nat.le_trans (own_old_le O60) (Nat.le_of_eq gq66.symm)
 have sz_o66 : h0.size ≤ o66 := Nat.le_trans (K61).1 (Nat.le_of_eq gq66.symm)
 have ne_b0_o66 : b0 ≠ o66 := Nat.ne_of_lt (Nat.lt_of_lt_of_le E_50.lt (Nat.le_of_eq gq66.symm))
 have ne_o5_o66 : o5 ≠ o66 := Nat.ne_of_lt (Nat.lt_of_lt_of_le V_56.lt (Nat.le_of_eq gq66.symm))
 have ne_o34_o66 : o34 ≠ o66 := Nat.ne_of_lt (Nat.lt_of_lt_of_le V_58.lt (Nat.le_of_eq gq66.symm))
 have E_67 := E_50.ext E66
 have F_68 := F_51.ext E66
 have F_69 := F_62.ext E66
 have F_70 := F_52.ext E66
 have F_71 := F_53.ext E66
 have F_72 := F_54.ext E66
 have F_73 := F_55.ext E66
 have V_74 := V_56.ext E66
 have E_75 := E_57.ext E66
 have V_76 := V_58.ext E66
 have E_77 := E_59.ext E66
 have O78 := O60.ext E66
 have K79 := K61.ext E66
 have V_80 : Arv Z h66 o66 k66 .boolean (4 : Int32) [(.int (0 : Int32)), (.int (0 : Int32)), (.int (0 : Int32)), (.int (0 : Int32))] (.int (0 : Int32)) := (Arv.new A66 (by decide)).pad (pad_rep [] (.int (0 : Int32)) 4)
 have E_81 : Exa Z h66 o66 "[Z" := Ea66
 have p82 : ∀ t, St p e below T66 (mkF m 23 #[.val (.ref b0)] [(.ref o66), (.ref b0)]) t → S0 t := fun t k => p65 t (st66 t k)
 obtain ⟨T83, h83, X83, e83, W83, st83⟩ := putF X66 hx hZ hown (host := "") (Or.inl (ww hw 17 rfl)) Via.refl e66 F_70 E_67 (Or.inl (ww hw 18 rfl)) (ww hw 1 rfl) (ty := (.array .boolean)) (by decide) rfl rfl (g := (mkF m 23 #[.val (.ref b0)] [(.ref o66), (.ref b0)])) rfl rfl (hb hby d1_23)
 have E_84 := E_67.wr W83
 have F_85 := F_68.other W83 (Or.inr (sn10 hw))
 have F_86 := F_69.other W83 (Or.inr (sn11 hw))
 have F_87 := F_71.other W83 (Or.inr (sn12 hw))
 have F_88 := F_72.other W83 (Or.inr (sn13 hw))
 have F_89 := F_73.other W83 (Or.inr (sn14 hw))
 have V_90 := V_74.other W83 (Ne.symm ne_b0_o5)
 have E_91 := E_75.wr W83
 have V_92 := V_76.other W83 (Ne.symm ne_b0_o34)
 have E_93 := E_77.wr W83
 have V_94 := V_80.other W83 (Ne.symm ne_b0_o66)
 have E_95 := E_81.wr W83
 have O96 := O78.wr W83 g_b0
 have K97 := K79.wr W83 (Or.inl (List.mem_of_getElem? (i := 0) rfl))
 have F_98 : Fld Z h83 b0 "com/example/quadrille/quadrille/store/SortedTriples" "owned" "[Z" (.ref o66) := F_70.same W83
 have N99 := Fr.snoc X83 N63 g_b0
 have p100 : ∀ t, St p e below T83 (mkF m 26 #[.val (.ref b0)] []) t → S0 t := fun t k => p82 t (st83 t k)
 obtain ⟨fs, hr, hrun, hended, hW, hsame⟩ := X83.leave (v := none) (fun _ => rfl)
 refine ⟨_, _, p100 _ ?_, hrun, hended, _, _, rfl, ?_, ⟨_, rfl⟩, hW, hsame.mono (by decide) (by decide)⟩
 · exact X83.returnOut hx Bd.returns (hb hby d1_26) hr
 · show Q1_0 Z b0 h0 n0 _ T83.heap _
   rw [e83]
   exact ⟨N99, ⟨o5, o34, o66, k5, k34, k66, rfl, K97, gb_o5, sz_o5, gb_o34, sz_o34, gb_o66, sz_o66, ne_o5_o34, ne_o5_o66, ne_o34_o66, E_84, F_85, F_86, F_98, F_87, F_88, F_89, V_90, E_91, O_17, V_92, E_93, V_94, E_95⟩⟩
theorem pd0 : parseMethodDescriptor "()V" = some ⟨[], none⟩ := by decide +kernel
theorem ef2 (m : MethodId) (x0 : Addr) (x1 : Int32) (x2 : Int32) (x3 : Int32) : entryFrame m #[(.ref x0), (.int x1), (.int x2), (.int x3)] 8 = mkF m 0 #[.val (.ref x0), .val (.int x1), .val (.int x2), .val (.int x3), .unset, .unset, .unset, .unset] [] := by first | (simp [entryFrame, mkF, argsToLocals, Value.category]; done) | rfl
theorem d3_0 : decode prog_155_method_6_code 0 = .ok (.aload_n 0, 1) := by decide +kernel
theorem ef3 (m : MethodId) (x0 : Addr) : entryFrame m #[(.ref x0)] 1 = mkF m 0 #[.val (.ref x0)] [] := by first | (simp [entryFrame, mkF, argsToLocals, Value.category]; done) | rfl
theorem d4_0 : decode prog_155_method_14_code 0 = .ok (.aload_n 0, 1) := by decide +kernel
theorem d4_1 : decode prog_155_method_14_code 1 = .ok (.getfield 30, 3) := by decide +kernel
theorem d4_4 : decode prog_155_method_14_code 4 = .ok (.ifCond .eq 47, 3) := by decide +kernel
theorem d4_51 : decode prog_155_method_14_code 51 = .ok (.return_, 1) := by decide +kernel
def Q4_2 (Z : State) (b0 : Addr) (h0 : Heap) (n0 : Nat) (v : Option Value) (h : Heap) (L : List Loc) : Prop := Fr n0 L ∧ h = h0 ∧ ((v = none))
set_option maxRecDepth 65536 in
set_option maxHeartbeats 40000000 in
theorem rm4_2 (l : Launch) (Z : State) (a0 : Array Value) (hw : ∀ d ∈ tables_1, d.before a0 Z = true) (ws : List Jvm.Cond) (b0 : Addr) (h0 : Heap) (n0 : Nat) (O0 : Old Z n0 h0)  (g_b0 : n0 ≤ b0) (f0 : Exa Z h0 b0 "com/example/quadrille/quadrille/store/SortedTriples") (f1 : Fld Z h0 b0 "com/example/quadrille/quadrille/store/SortedTriples" "shared" "Z" (.int (0 : Int32))) :
    MetFree l M1 (head1 (Jvm.Cond.code M1 prog_155_method_14_code 1 none :: ws) ({ frames := 0, cells := 0, slots := 0, locals := 0 } : Room)) (fun a U => a = #[(.ref b0)] ∧ Z.Warmed39 U.vm ∧ U.heap = h0) (fun _ _ _ _ _ => True) (fun _ U o U' => ∃ v L, o = .returned v ∧ Q4_2 Z b0 h0 n0 v U'.heap L ∧ FrameEnd U o U' L ({ frames := 0, cells := 0, slots := 0, locals := 0 } : Room).cells ({ frames := 0, cells := 0, slots := 0, locals := 0 } : Room).slots) := by
 refine MetFree.of_bodySF (plainFor_of_name pn1) hisR ?_
 intro p e s m args below meth c s₁ Bd hml0 hP hK
 obtain ⟨rfl, hZ, hh⟩ := hP
 have hx := Bd.exec
 have hby := Bd.bytes
 have hml : c.maxLocals = 1 := hml0
 have hown : s.vm.findClass "com/example/quadrille/quadrille/store/SortedTriples" = some m.cls := findClass_of_methodNamed Bd.named
 have hnm := (name_of_methodNamed Bd.named Bd.method).1
 have X0 : Stand p l e ({ frames := 0, cells := 0, slots := 0, locals := 0 } : Room) s m #[(.ref b0)] below meth c s₁ [] 0 0 := Stand.of_body Bd
 have e0 : s₁.heap = h0 := by rw [← hh, Bd.state]; rfl
 have N0 := Fr.nil n0
 let S0 : State → Prop := fun t => Steps p.tables e below (s₁.setTop (entryFrame m #[(.ref b0)] 1)) t
 have p0 : ∀ t, St p e below s₁ (mkF m 0 #[.val (.ref b0)] []) t → S0 t := fun t k => castTop (ef3 m b0) k
 have p1 : ∀ t, St p e below s₁ (mkF m 1 #[.val (.ref b0)] [(.ref b0)]) t → S0 t := fun t k => p0 t (by
   refine XS.aloadN X0.here hx rfl (hb hby d4_0) rfl rfl ?_
   exact k)
 obtain ⟨T2, X2, e2, st2⟩ := getF X0 hx hZ hown (host := "") (Or.inl (ww hw 28 rfl)) Via.refl e0 f1 (g := (mkF m 1 #[.val (.ref b0)] [(.ref b0)])) rfl rfl (hb hby d4_1)
 have p3 : ∀ t, St p e below T2 (mkF m 4 #[.val (.ref b0)] [(.int (0 : Int32))]) t → S0 t := fun t k => p1 t (st2 t k)
 have p4 : ∀ t, St p e below T2 (mkF m 51 #[.val (.ref b0)] []) t → S0 t := fun t k => p3 t (by
   refine XS.ifYes X2.here hx rfl (pc0 := 4) (pc' := 51) rfl (hb hby d4_4) rfl ((if0 _ _).trans (teq (by decide : (0 : Int32) = (0 : Int32))).1) (by decide) (by decide) ?_
   exact k)
 obtain ⟨fs, hr, hrun, hended, hW, hsame⟩ := X2.leave (v := none) (fun _ => rfl)
 refine ⟨_, _, p4 _ ?_, hrun, hended, _, _, rfl, ?_, ⟨_, rfl⟩, hW, hsame.mono (by decide) (by decide)⟩
 · exact X2.returnOut hx Bd.returns (hb hby d4_51) hr
 · show Q4_2 Z b0 h0 n0 _ T2.heap _
   exact ⟨N0, e2, rfl⟩
theorem d3_1 : decode prog_155_method_6_code 1 = .ok (.invokevirtual 45, 3) := by decide +kernel
theorem d3_4 : decode prog_155_method_6_code 4 = .ok (.aload_n 0, 1) := by decide +kernel
theorem d3_5 : decode prog_155_method_6_code 5 = .ok (.getfield 22, 3) := by decide +kernel
theorem d3_8 : decode prog_155_method_6_code 8 = .ok (.ifCond .ne 12, 3) := by decide +kernel
theorem d3_11 : decode prog_155_method_6_code 11 = .ok (.aload_n 0, 1) := by decide +kernel
theorem d3_12 : decode prog_155_method_6_code 12 = .ok (.iconst 0, 1) := by decide +kernel
theorem d3_13 : decode prog_155_method_6_code 13 = .ok (.bipush 12, 2) := by decide +kernel
theorem d3_15 : decode prog_155_method_6_code 15 = .ok (.newarray .int, 2) := by decide +kernel
theorem ef4 (m : MethodId) (x0 : Addr) (x1 : Int32) (x2 : Addr) : entryFrame m #[(.ref x0), (.int x1), (.ref x2)] 3 = mkF m 0 #[.val (.ref x0), .val (.int x1), .val (.ref x2)] [] := by first | (simp [entryFrame, mkF, argsToLocals, Value.category]; done) | rfl
theorem d5_0 : decode prog_155_method_17_code 0 = .ok (.aload_n 0, 1) := by decide +kernel
theorem d5_1 : decode prog_155_method_17_code 1 = .ok (.getfield 22, 3) := by decide +kernel
theorem d5_4 : decode prog_155_method_17_code 4 = .ok (.aload_n 0, 1) := by decide +kernel
theorem d5_5 : decode prog_155_method_17_code 5 = .ok (.getfield 11, 3) := by decide +kernel
theorem d5_8 : decode prog_155_method_17_code 8 = .ok (.arraylength, 1) := by decide +kernel
theorem d5_9 : decode prog_155_method_17_code 9 = .ok (.if_icmp .ne 60, 3) := by decide +kernel
theorem d5_69 : decode prog_155_method_17_code 69 = .ok (.aload_n 0, 1) := by decide +kernel
theorem d5_70 : decode prog_155_method_17_code 70 = .ok (.getfield 11, 3) := by decide +kernel
theorem d5_73 : decode prog_155_method_17_code 73 = .ok (.iload_n 1, 1) := by decide +kernel
theorem d5_74 : decode prog_155_method_17_code 74 = .ok (.aload_n 0, 1) := by decide +kernel
theorem d5_75 : decode prog_155_method_17_code 75 = .ok (.getfield 11, 3) := by decide +kernel
theorem d5_78 : decode prog_155_method_17_code 78 = .ok (.iload_n 1, 1) := by decide +kernel
theorem d5_79 : decode prog_155_method_17_code 79 = .ok (.iconst 1, 1) := by decide +kernel
theorem d5_80 : decode prog_155_method_17_code 80 = .ok (.iadd, 1) := by decide +kernel
theorem d5_81 : decode prog_155_method_17_code 81 = .ok (.aload_n 0, 1) := by decide +kernel
theorem d5_82 : decode prog_155_method_17_code 82 = .ok (.getfield 22, 3) := by decide +kernel
theorem d5_85 : decode prog_155_method_17_code 85 = .ok (.iload_n 1, 1) := by decide +kernel
theorem d5_86 : decode prog_155_method_17_code 86 = .ok (.isub, 1) := by decide +kernel
theorem d5_87 : decode prog_155_method_17_code 87 = .ok (.invokestatic 72, 3) := by decide +kernel
theorem d5_90 : decode prog_155_method_17_code 90 = .ok (.aload_n 0, 1) := by decide +kernel
theorem d5_91 : decode prog_155_method_17_code 91 = .ok (.getfield 15, 3) := by decide +kernel
theorem d5_94 : decode prog_155_method_17_code 94 = .ok (.iload_n 1, 1) := by decide +kernel
theorem d5_95 : decode prog_155_method_17_code 95 = .ok (.aload_n 0, 1) := by decide +kernel
theorem d5_96 : decode prog_155_method_17_code 96 = .ok (.getfield 15, 3) := by decide +kernel
theorem d5_99 : decode prog_155_method_17_code 99 = .ok (.iload_n 1, 1) := by decide +kernel
theorem d5_100 : decode prog_155_method_17_code 100 = .ok (.iconst 1, 1) := by decide +kernel
theorem d5_101 : decode prog_155_method_17_code 101 = .ok (.iadd, 1) := by decide +kernel
theorem d5_102 : decode prog_155_method_17_code 102 = .ok (.aload_n 0, 1) := by decide +kernel
theorem d5_103 : decode prog_155_method_17_code 103 = .ok (.getfield 22, 3) := by decide +kernel
theorem d5_106 : decode prog_155_method_17_code 106 = .ok (.iload_n 1, 1) := by decide +kernel
theorem d5_107 : decode prog_155_method_17_code 107 = .ok (.isub, 1) := by decide +kernel
theorem d5_108 : decode prog_155_method_17_code 108 = .ok (.invokestatic 72, 3) := by decide +kernel
theorem d5_111 : decode prog_155_method_17_code 111 = .ok (.aload_n 0, 1) := by decide +kernel
theorem d5_112 : decode prog_155_method_17_code 112 = .ok (.getfield 18, 3) := by decide +kernel
theorem d5_115 : decode prog_155_method_17_code 115 = .ok (.iload_n 1, 1) := by decide +kernel
theorem d5_116 : decode prog_155_method_17_code 116 = .ok (.aload_n 0, 1) := by decide +kernel
theorem d5_117 : decode prog_155_method_17_code 117 = .ok (.getfield 18, 3) := by decide +kernel
theorem d5_120 : decode prog_155_method_17_code 120 = .ok (.iload_n 1, 1) := by decide +kernel
theorem d5_121 : decode prog_155_method_17_code 121 = .ok (.iconst 1, 1) := by decide +kernel
theorem d5_122 : decode prog_155_method_17_code 122 = .ok (.iadd, 1) := by decide +kernel
theorem d5_123 : decode prog_155_method_17_code 123 = .ok (.aload_n 0, 1) := by decide +kernel
theorem d5_124 : decode prog_155_method_17_code 124 = .ok (.getfield 22, 3) := by decide +kernel
theorem d5_127 : decode prog_155_method_17_code 127 = .ok (.iload_n 1, 1) := by decide +kernel
theorem d5_128 : decode prog_155_method_17_code 128 = .ok (.isub, 1) := by decide +kernel
theorem d5_129 : decode prog_155_method_17_code 129 = .ok (.invokestatic 72, 3) := by decide +kernel
theorem d5_132 : decode prog_155_method_17_code 132 = .ok (.aload_n 0, 1) := by decide +kernel
theorem d5_133 : decode prog_155_method_17_code 133 = .ok (.getfield 11, 3) := by decide +kernel
theorem d5_136 : decode prog_155_method_17_code 136 = .ok (.iload_n 1, 1) := by decide +kernel
theorem d5_137 : decode prog_155_method_17_code 137 = .ok (.aload_n 2, 1) := by decide +kernel
theorem d5_138 : decode prog_155_method_17_code 138 = .ok (.aastore, 1) := by decide +kernel
theorem d5_139 : decode prog_155_method_17_code 139 = .ok (.aload_n 0, 1) := by decide +kernel
theorem d5_140 : decode prog_155_method_17_code 140 = .ok (.getfield 15, 3) := by decide +kernel
theorem d5_143 : decode prog_155_method_17_code 143 = .ok (.iload_n 1, 1) := by decide +kernel
theorem d5_144 : decode prog_155_method_17_code 144 = .ok (.iconst 0, 1) := by decide +kernel
theorem d5_145 : decode prog_155_method_17_code 145 = .ok (.iastore, 1) := by decide +kernel
theorem d5_146 : decode prog_155_method_17_code 146 = .ok (.aload_n 0, 1) := by decide +kernel
theorem d5_147 : decode prog_155_method_17_code 147 = .ok (.getfield 18, 3) := by decide +kernel
theorem d5_150 : decode prog_155_method_17_code 150 = .ok (.iload_n 1, 1) := by decide +kernel
theorem d5_151 : decode prog_155_method_17_code 151 = .ok (.iconst 1, 1) := by decide +kernel
theorem d5_152 : decode prog_155_method_17_code 152 = .ok (.bastore, 1) := by decide +kernel
theorem d5_153 : decode prog_155_method_17_code 153 = .ok (.aload_n 0, 1) := by decide +kernel
theorem d5_154 : decode prog_155_method_17_code 154 = .ok (.dup, 1) := by decide +kernel
theorem d5_155 : decode prog_155_method_17_code 155 = .ok (.getfield 22, 3) := by decide +kernel
theorem d5_158 : decode prog_155_method_17_code 158 = .ok (.iconst 1, 1) := by decide +kernel
theorem d5_159 : decode prog_155_method_17_code 159 = .ok (.iadd, 1) := by decide +kernel
theorem d5_160 : decode prog_155_method_17_code 160 = .ok (.putfield 22, 3) := by decide +kernel
theorem sn15 {Z : State} {a0 : Array Value} (hw : ∀ d ∈ tables_1, d.before a0 Z = true) : Jvm.RoadKit.slotOf Z "com/example/quadrille/quadrille/store/SortedTriples" "blocks" "[[I" ≠ Jvm.RoadKit.slotOf Z "com/example/quadrille/quadrille/store/SortedTriples" "blockCount" "I" := slot_ne (Or.inl (ww hw 12 rfl)) (Or.inl (ww hw 31 rfl)) (by decide) (t := (.array (.array .int))) (t' := .int) (by decide) (by decide)
theorem sn16 {Z : State} {a0 : Array Value} (hw : ∀ d ∈ tables_1, d.before a0 Z = true) : Jvm.RoadKit.slotOf Z "com/example/quadrille/quadrille/store/SortedTriples" "counts" "[I" ≠ Jvm.RoadKit.slotOf Z "com/example/quadrille/quadrille/store/SortedTriples" "blockCount" "I" := slot_ne (Or.inl (ww hw 15 rfl)) (Or.inl (ww hw 31 rfl)) (by decide) (t := (.array .int)) (t' := .int) (by decide) (by decide)
theorem sn17 {Z : State} {a0 : Array Value} (hw : ∀ d ∈ tables_1, d.before a0 Z = true) : Jvm.RoadKit.slotOf Z "com/example/quadrille/quadrille/store/SortedTriples" "owned" "[Z" ≠ Jvm.RoadKit.slotOf Z "com/example/quadrille/quadrille/store/SortedTriples" "blockCount" "I" := slot_ne (Or.inl (ww hw 18 rfl)) (Or.inl (ww hw 31 rfl)) (by decide) (t := (.array .boolean)) (t' := .int) (by decide) (by decide)
theorem sn18 {Z : State} {a0 : Array Value} (hw : ∀ d ∈ tables_1, d.before a0 Z = true) : Jvm.RoadKit.slotOf Z "com/example/quadrille/quadrille/store/SortedTriples" "shared" "Z" ≠ Jvm.RoadKit.slotOf Z "com/example/quadrille/quadrille/store/SortedTriples" "blockCount" "I" := slot_ne (Or.inl (ww hw 29 rfl)) (Or.inl (ww hw 31 rfl)) (by decide) (t := .boolean) (t' := .int) (by decide) (by decide)
theorem sn19 {Z : State} {a0 : Array Value} (hw : ∀ d ∈ tables_1, d.before a0 Z = true) : Jvm.RoadKit.slotOf Z "com/example/quadrille/quadrille/store/SortedTriples" "size" "J" ≠ Jvm.RoadKit.slotOf Z "com/example/quadrille/quadrille/store/SortedTriples" "blockCount" "I" := slot_ne (Or.inl (ww hw 53 rfl)) (Or.inl (ww hw 31 rfl)) (by decide) (t := .long) (t' := .int) (by decide) (by decide)
theorem d5_163 : decode prog_155_method_17_code 163 = .ok (.return_, 1) := by decide +kernel
def Q5_3 (Z : State) (b0 : Addr) (b1 : Addr) (b2 : Addr) (b3 : Addr) (b4 : Addr) (k5 : ClassId) (k6 : ClassId) (k7 : ClassId) (k8 : ClassId) (h0 : Heap) (n0 : Nat) (v : Option Value) (h : Heap) (L : List Loc) : Prop := Fr n0 L ∧ ((v = none ∧ Keep h0 h [b2, b3, b4, b0] ∧ Exa Z h b0 "com/example/quadrille/quadrille/store/SortedTriples" ∧ Fld Z h b0 "com/example/quadrille/quadrille/store/SortedTriples" "blocks" "[[I" (.ref b2) ∧ Fld Z h b0 "com/example/quadrille/quadrille/store/SortedTriples" "counts" "[I" (.ref b3) ∧ Fld Z h b0 "com/example/quadrille/quadrille/store/SortedTriples" "owned" "[Z" (.ref b4) ∧ Fld Z h b0 "com/example/quadrille/quadrille/store/SortedTriples" "shared" "Z" (.int (0 : Int32)) ∧ Fld Z h b0 "com/example/quadrille/quadrille/store/SortedTriples" "blockCount" "I" (.int (1 : Int32)) ∧ Fld Z h b0 "com/example/quadrille/quadrille/store/SortedTriples" "size" "J" (.long (0 : Int64)) ∧ Arv Z h b2 k6 (.array .int) (4 : Int32) [(.ref b1), .null, .null, .null] .null ∧ Exa Z h b2 "[[I" ∧ OvrA Z k6 .int "[I" ∧ Arv Z h b3 k7 .int (4 : Int32) [(.int (0 : Int32)), (.int (0 : Int32)), (.int (0 : Int32)), (.int (0 : Int32))] (.int (0 : Int32)) ∧ Exa Z h b3 "[I" ∧ Arv Z h b4 k8 .boolean (4 : Int32) [(.int (1 : Int32)), (.int (0 : Int32)), (.int (0 : Int32)), (.int (0 : Int32))] (.int (0 : Int32)) ∧ Exa Z h b4 "[Z"))
set_option maxRecDepth 65536 in
set_option maxHeartbeats 40000000 in
theorem rm5_3 (l : Launch) (Z : State) (a0 : Array Value) (hw : ∀ d ∈ tables_1, d.before a0 Z = true) (ws : List Jvm.Cond) (b0 : Addr) (b1 : Addr) (b2 : Addr) (b3 : Addr) (b4 : Addr) (k5 : ClassId) (k6 : ClassId) (k7 : ClassId) (k8 : ClassId) (h0 : Heap) (n0 : Nat) (O0 : Old Z n0 h0)  (g_b0 : n0 ≤ b0) (g_b1 : n0 ≤ b1) (g_b2 : n0 ≤ b2) (g_b3 : n0 ≤ b3) (g_b4 : n0 ≤ b4) (ne_b0_b1 : b0 ≠ b1) (ne_b0_b2 : b0 ≠ b2) (ne_b0_b3 : b0 ≠ b3) (ne_b0_b4 : b0 ≠ b4) (ne_b1_b2 : b1 ≠ b2) (ne_b1_b3 : b1 ≠ b3) (ne_b1_b4 : b1 ≠ b4) (ne_b2_b3 : b2 ≠ b3) (ne_b2_b4 : b2 ≠ b4) (ne_b3_b4 : b3 ≠ b4) (f0 : Exa Z h0 b0 "com/example/quadrille/quadrille/store/SortedTriples") (f1 : Fld Z h0 b0 "com/example/quadrille/quadrille/store/SortedTriples" "blocks" "[[I" (.ref b2)) (f2 : Fld Z h0 b0 "com/example/quadrille/quadrille/store/SortedTriples" "counts" "[I" (.ref b3)) (f3 : Fld Z h0 b0 "com/example/quadrille/quadrille/store/SortedTriples" "owned" "[Z" (.ref b4)) (f4 : Fld Z h0 b0 "com/example/quadrille/quadrille/store/SortedTriples" "shared" "Z" (.int (0 : Int32))) (f5 : Fld Z h0 b0 "com/example/quadrille/quadrille/store/SortedTriples" "blockCount" "I" (.int (0 : Int32))) (f6 : Fld Z h0 b0 "com/example/quadrille/quadrille/store/SortedTriples" "size" "J" (.long (0 : Int64))) (f7 : Arv Z h0 b1 k5 .int (12 : Int32) [(.int (0 : Int32)), (.int (0 : Int32)), (.int (0 : Int32)), (.int (0 : Int32)), (.int (0 : Int32)), (.int (0 : Int32)), (.int (0 : Int32)), (.int (0 : Int32)), (.int (0 : Int32)), (.int (0 : Int32)), (.int (0 : Int32)), (.int (0 : Int32))] (.int (0 : Int32))) (f8 : Exa Z h0 b1 "[I") (f9 : Arv Z h0 b2 k6 (.array .int) (4 : Int32) [.null, .null, .null, .null] .null) (f10 : Exa Z h0 b2 "[[I") (f11 : OvrA Z k6 .int "[I") (f12 : Arv Z h0 b3 k7 .int (4 : Int32) [(.int (0 : Int32)), (.int (0 : Int32)), (.int (0 : Int32)), (.int (0 : Int32))] (.int (0 : Int32))) (f13 : Exa Z h0 b3 "[I") (f14 : Arv Z h0 b4 k8 .boolean (4 : Int32) [(.int (0 : Int32)), (.int (0 : Int32)), (.int (0 : Int32)), (.int (0 : Int32))] (.int (0 : Int32))) (f15 : Exa Z h0 b4 "[Z") :
    MetFree l M2 (head1 (Jvm.Cond.code M2 prog_155_method_17_code 3 none :: ws) ({ frames := 1, cells := 0, slots := 0, locals := 28 } : Room)) (fun a U => a = #[(.ref b0), (.int (0 : Int32)), (.ref b1)] ∧ Z.Warmed39 U.vm ∧ U.heap = h0) (fun _ _ _ _ _ => True) (fun _ U o U' => ∃ v L, o = .returned v ∧ Q5_3 Z b0 b1 b2 b3 b4 k5 k6 k7 k8 h0 n0 v U'.heap L ∧ FrameEnd U o U' L ({ frames := 1, cells := 0, slots := 0, locals := 28 } : Room).cells ({ frames := 1, cells := 0, slots := 0, locals := 28 } : Room).slots) := by
 refine MetFree.of_bodySF (plainFor_of_name pn1) hisR ?_
 intro p e s m args below meth c s₁ Bd hml0 hP hK
 obtain ⟨rfl, hZ, hh⟩ := hP
 have hx := Bd.exec
 have hby := Bd.bytes
 have hml : c.maxLocals = 3 := hml0
 have hown : s.vm.findClass "com/example/quadrille/quadrille/store/SortedTriples" = some m.cls := findClass_of_methodNamed Bd.named
 have hnm := (name_of_methodNamed Bd.named Bd.method).1
 have X0 : Stand p l e ({ frames := 1, cells := 0, slots := 0, locals := 28 } : Room) s m #[(.ref b0), (.int (0 : Int32)), (.ref b1)] below meth c s₁ [] 0 0 := Stand.of_body Bd
 have e0 : s₁.heap = h0 := by rw [← hh, Bd.state]; rfl
 have N0 := Fr.nil n0
 let S0 : State → Prop := fun t => Steps p.tables e below (s₁.setTop (entryFrame m #[(.ref b0), (.int (0 : Int32)), (.ref b1)] 3)) t
 have p0 : ∀ t, St p e below s₁ (mkF m 0 #[.val (.ref b0), .val (.int (0 : Int32)), .val (.ref b1)] []) t → S0 t := fun t k => castTop (ef4 m b0 (0 : Int32) b1) k
 have p1 : ∀ t, St p e below s₁ (mkF m 1 #[.val (.ref b0), .val (.int (0 : Int32)), .val (.ref b1)] [(.ref b0)]) t → S0 t := fun t k => p0 t (by
   refine XS.aloadN X0.here hx rfl (hb hby d5_0) rfl rfl ?_
   exact k)
 obtain ⟨T2, X2, e2, st2⟩ := getF X0 hx hZ hown (host := "") (Or.inl (ww hw 30 rfl)) Via.refl e0 f5 (g := (mkF m 1 #[.val (.ref b0), .val (.int (0 : Int32)), .val (.ref b1)] [(.ref b0)])) rfl rfl (hb hby d5_1)
 have p3 : ∀ t, St p e below T2 (mkF m 4 #[.val (.ref b0), .val (.int (0 : Int32)), .val (.ref b1)] [(.int (0 : Int32))]) t → S0 t := fun t k => p1 t (st2 t k)
 have p4 : ∀ t, St p e below T2 (mkF m 5 #[.val (.ref b0), .val (.int (0 : Int32)), .val (.ref b1)] [(.ref b0), (.int (0 : Int32))]) t → S0 t := fun t k => p3 t (by
   refine XS.aloadN X2.here hx rfl (hb hby d5_4) rfl rfl ?_
   exact k)
 obtain ⟨T5, X5, e5, st5⟩ := getF X2 hx hZ hown (host := "") (Or.inl (ww hw 11 rfl)) Via.refl e2 f1 (g := (mkF m 5 #[.val (.ref b0), .val (.int (0 : Int32)), .val (.ref b1)] [(.ref b0), (.int (0 : Int32))])) rfl rfl (hb hby d5_5)
 have p6 : ∀ t, St p e below T5 (mkF m 8 #[.val (.ref b0), .val (.int (0 : Int32)), .val (.ref b1)] [(.ref b2), (.int (0 : Int32))]) t → S0 t := fun t k => p4 t (st5 t k)
 obtain ⟨cl7, Ar7, -, Sz7, Nn7, -, -⟩ := id f9
 have Ln7 : cl7.slots.size.toInt32 = (4 : Int32) := len_of Sz7 Nn7
 have p8 : ∀ t, St p e below T5 (mkF m 9 #[.val (.ref b0), .val (.int (0 : Int32)), .val (.ref b1)] [(.int (4 : Int32)), (.int (0 : Int32))]) t → S0 t := fun t k => p6 t (X5.arraylength hx (by rw [e5]; exact Ar7.1) (State.isArrayOf_alike hZ.alike Ar7.2.1) (g := (mkF m 8 #[.val (.ref b0), .val (.int (0 : Int32)), .val (.ref b1)] [(.ref b2), (.int (0 : Int32))])) rfl rfl (hb hby d5_8) t (by rw [Ln7]; exact k))
 have p9 : ∀ t, St p e below T5 (mkF m 70 #[.val (.ref b0), .val (.int (0 : Int32)), .val (.ref b1)] [(.ref b0)]) t → S0 t := fun t k => p8 t (by
   refine XS.icmpYes X5.here hx rfl (pc0 := 9) (pc' := 69) rfl (hb hby d5_9) rfl (feq (by decide : ¬ ((0 : Int32) = (4 : Int32)))).2 (by decide) (by decide) ?_
   refine XS.aloadN X5.here hx rfl (hb hby d5_69) rfl rfl ?_
   exact k)
 obtain ⟨T10, X10, e10, st10⟩ := getF X5 hx hZ hown (host := "") (Or.inl (ww hw 11 rfl)) Via.refl e5 f1 (g := (mkF m 70 #[.val (.ref b0), .val (.int (0 : Int32)), .val (.ref b1)] [(.ref b0)])) rfl rfl (hb hby d5_70)
 have p11 : ∀ t, St p e below T10 (mkF m 73 #[.val (.ref b0), .val (.int (0 : Int32)), .val (.ref b1)] [(.ref b2)]) t → S0 t := fun t k => p9 t (st10 t k)
 have p12 : ∀ t, St p e below T10 (mkF m 75 #[.val (.ref b0), .val (.int (0 : Int32)), .val (.ref b1)] [(.ref b0), (.int (0 : Int32)), (.ref b2)]) t → S0 t := fun t k => p11 t (by
   refine XS.iloadN X10.here hx rfl (hb hby d5_73) rfl ?_
   refine XS.aloadN X10.here hx rfl (hb hby d5_74) rfl rfl ?_
   exact k)
 obtain ⟨T13, X13, e13, st13⟩ := getF X10 hx hZ hown (host := "") (Or.inl (ww hw 11 rfl)) Via.refl e10 f1 (g := (mkF m 75 #[.val (.ref b0), .val (.int (0 : Int32)), .val (.ref b1)] [(.ref b0), (.int (0 : Int32)), (.ref b2)])) rfl rfl (hb hby d5_75)
 have p14 : ∀ t, St p e below T13 (mkF m 78 #[.val (.ref b0), .val (.int (0 : Int32)), .val (.ref b1)] [(.ref b2), (.int (0 : Int32)), (.ref b2)]) t → S0 t := fun t k => p12 t (st13 t k)
 have p15 : ∀ t, St p e below T13 (mkF m 82 #[.val (.ref b0), .val (.int (0 : Int32)), .val (.ref b1)] [(.ref b0), (.int (1 : Int32)), (.ref b2), (.int (0 : Int32)), (.ref b2)]) t → S0 t := fun t k => p14 t (by
   refine XS.iloadN X13.here hx rfl (hb hby d5_78) rfl ?_
   refine XT.iconstV X13.here hx rfl (1 : Int32) (hb hby d5_79) (by decide) ?_
   refine XS.iadd X13.here hx rfl (hb hby d5_80) rfl ?_
   refine XS.aloadN X13.here hx rfl (hb hby d5_81) rfl rfl ?_
   exact k)
 obtain ⟨T16, X16, e16, st16⟩ := getF X13 hx hZ hown (host := "") (Or.inl (ww hw 30 rfl)) Via.refl e13 f5 (g := (mkF m 82 #[.val (.ref b0), .val (.int (0 : Int32)), .val (.ref b1)] [(.ref b0), (.int (1 : Int32)), (.ref b2), (.int (0 : Int32)), (.ref b2)])) rfl rfl (hb hby d5_82)
 have p17 : ∀ t, St p e below T16 (mkF m 85 #[.val (.ref b0), .val (.int (0 : Int32)), .val (.ref b1)] [(.int (0 : Int32)), (.int (1 : Int32)), (.ref b2), (.int (0 : Int32)), (.ref b2)]) t → S0 t := fun t k => p15 t (st16 t k)
 have p18 : ∀ t, St p e below T16 (mkF m 87 #[.val (.ref b0), .val (.int (0 : Int32)), .val (.ref b1)] [(.int (0 : Int32)), (.int (1 : Int32)), (.ref b2), (.int (0 : Int32)), (.ref b2)]) t → S0 t := fun t k => p17 t (by
   refine XS.iloadN X16.here hx rfl (hb hby d5_85) rfl ?_
   refine XS.isub X16.here hx rfl (hb hby d5_86) rfl ?_
   exact k)
 obtain ⟨T19, h19, Lz19, X19, e19, N19, Kz19, Vz19, st19⟩ := cpA X16 hx hZ hown (ww hw 36 rfl) (ww hw 39 rfl) (ww hw 37 rfl) (ww hw 38 rfl) e16 f9 f9 (Or.inr ⟨rfl, rfl, trivial⟩) (sp := (0 : Int32)) (dp := (1 : Int32)) (nn := (0 : Int32)) (by decide) (by decide) (by decide) (by decide) (by decide) (us := []) rfl (Nat.le_of_ble_eq_true rfl) N0 g_b2 (g := (mkF m 87 #[.val (.ref b0), .val (.int (0 : Int32)), .val (.ref b1)] [(.int (0 : Int32)), (.int (1 : Int32)), (.ref b2), (.int (0 : Int32)), (.ref b2)])) rfl (by rw [hml]; rfl) rfl (hb hby d5_87) (by decide) (W := 0) (by show 2 * 0 + _ ≤ _; exact Nat.le_of_eq rfl) (by decide)
 have E_20 := f0.keep Kz19
 have F_21 := f1.keep Kz19 (ninS ne_b0_b2 nin0)
 have F_22 := f2.keep Kz19 (ninS ne_b0_b2 nin0)
 have F_23 := f3.keep Kz19 (ninS ne_b0_b2 nin0)
 have F_24 := f4.keep Kz19 (ninS ne_b0_b2 nin0)
 have F_25 := f5.keep Kz19 (ninS ne_b0_b2 nin0)
 have F_26 := f6.keep Kz19 (ninS ne_b0_b2 nin0)
 have V_27 := f7.keep Kz19 (ninS ne_b1_b2 nin0)
 have E_28 := f8.keep Kz19
 have E_29 := f10.keep Kz19
 have V_30 := f12.keep Kz19 (ninS (Ne.symm ne_b2_b3) nin0)
 have E_31 := f13.keep Kz19
 have V_32 := f14.keep Kz19 (ninS (Ne.symm ne_b2_b4) nin0)
 have E_33 := f15.keep Kz19
 have V_34 : Arv Z h19 b2 k6 (.array .int) (4 : Int32) [.null, .null, .null, .null] .null := Vz19
 have O35 := O0.keep Kz19 (allS g_b2 all0)
 have K36 := Keep.trans (Keep.refl h0 [b2, b3, b4, b0]) Kz19 (allS (Or.inl (List.mem_of_getElem? (i := 0) rfl)) all0)
 have p37 : ∀ t, St p e below T19 (mkF m 90 #[.val (.ref b0), .val (.int (0 : Int32)), .val (.ref b1)] []) t → S0 t := fun t k => p18 t (st19 t k)
 have p38 : ∀ t, St p e below T19 (mkF m 91 #[.val (.ref b0), .val (.int (0 : Int32)), .val (.ref b1)] [(.ref b0)]) t → S0 t := fun t k => p37 t (by
   refine XS.aloadN X19.here hx rfl (hb hby d5_90) rfl rfl ?_
   exact k)
 obtain ⟨T39, X39, e39, st39⟩ := getF X19 hx hZ hown (host := "") (Or.inl (ww hw 14 rfl)) Via.refl e19 F_22 (g := (mkF m 91 #[.val (.ref b0), .val (.int (0 : Int32)), .val (.ref b1)] [(.ref b0)])) rfl rfl (hb hby d5_91)
 have p40 : ∀ t, St p e below T39 (mkF m 94 #[.val (.ref b0), .val (.int (0 : Int32)), .val (.ref b1)] [(.ref b3)]) t → S0 t := fun t k => p38 t (st39 t k)
 have p41 : ∀ t, St p e below T39 (mkF m 96 #[.val (.ref b0), .val (.int (0 : Int32)), .val (.ref b1)] [(.ref b0), (.int (0 : Int32)), (.ref b3)]) t → S0 t := fun t k => p40 t (by
   refine XS.iloadN X39.here hx rfl (hb hby d5_94) rfl ?_
   refine XS.aloadN X39.here hx rfl (hb hby d5_95) rfl rfl ?_
   exact k)
 obtain ⟨T42, X42, e42, st42⟩ := getF X39 hx hZ hown (host := "") (Or.inl (ww hw 14 rfl)) Via.refl e39 F_22 (g := (mkF m 96 #[.val (.ref b0), .val (.int (0 : Int32)), .val (.ref b1)] [(.ref b0), (.int (0 : Int32)), (.ref b3)])) rfl rfl (hb hby d5_96)
 have p43 : ∀ t, St p e below T42 (mkF m 99 #[.val (.ref b0), .val (.int (0 : Int32)), .val (.ref b1)] [(.ref b3), (.int (0 : Int32)), (.ref b3)]) t → S0 t := fun t k => p41 t (st42 t k)
 have p44 : ∀ t, St p e below T42 (mkF m 103 #[.val (.ref b0), .val (.int (0 : Int32)), .val (.ref b1)] [(.ref b0), (.int (1 : Int32)), (.ref b3), (.int (0 : Int32)), (.ref b3)]) t → S0 t := fun t k => p43 t (by
   refine XS.iloadN X42.here hx rfl (hb hby d5_99) rfl ?_
   refine XT.iconstV X42.here hx rfl (1 : Int32) (hb hby d5_100) (by decide) ?_
   refine XS.iadd X42.here hx rfl (hb hby d5_101) rfl ?_
   refine XS.aloadN X42.here hx rfl (hb hby d5_102) rfl rfl ?_
   exact k)
 obtain ⟨T45, X45, e45, st45⟩ := getF X42 hx hZ hown (host := "") (Or.inl (ww hw 30 rfl)) Via.refl e42 F_25 (g := (mkF m 103 #[.val (.ref b0), .val (.int (0 : Int32)), .val (.ref b1)] [(.ref b0), (.int (1 : Int32)), (.ref b3), (.int (0 : Int32)), (.ref b3)])) rfl rfl (hb hby d5_103)
 have p46 : ∀ t, St p e below T45 (mkF m 106 #[.val (.ref b0), .val (.int (0 : Int32)), .val (.ref b1)] [(.int (0 : Int32)), (.int (1 : Int32)), (.ref b3), (.int (0 : Int32)), (.ref b3)]) t → S0 t := fun t k => p44 t (st45 t k)
 have p47 : ∀ t, St p e below T45 (mkF m 108 #[.val (.ref b0), .val (.int (0 : Int32)), .val (.ref b1)] [(.int (0 : Int32)), (.int (1 : Int32)), (.ref b3), (.int (0 : Int32)), (.ref b3)]) t → S0 t := fun t k => p46 t (by
   refine XS.iloadN X45.here hx rfl (hb hby d5_106) rfl ?_
   refine XS.isub X45.here hx rfl (hb hby d5_107) rfl ?_
   exact k)
 obtain ⟨T48, h48, Lz48, X48, e48, N48, Kz48, Vz48, st48⟩ := cpA X45 hx hZ hown (ww hw 36 rfl) (ww hw 39 rfl) (ww hw 37 rfl) (ww hw 38 rfl) e45 V_30 V_30 (Or.inl ⟨rfl, rfl⟩) (sp := (0 : Int32)) (dp := (1 : Int32)) (nn := (0 : Int32)) (by decide) (by decide) (by decide) (by decide) (by decide) (us := []) rfl (Nat.le_of_ble_eq_true rfl) N19 g_b3 (g := (mkF m 108 #[.val (.ref b0), .val (.int (0 : Int32)), .val (.ref b1)] [(.int (0 : Int32)), (.int (1 : Int32)), (.ref b3), (.int (0 : Int32)), (.ref b3)])) rfl (by rw [hml]; rfl) rfl (hb hby d5_108) (by decide) (W := 0) (by show 2 * 0 + _ ≤ _; exact Nat.le_of_eq rfl) (by decide)
 have E_49 := E_20.keep Kz48
 have F_50 := F_21.keep Kz48 (ninS ne_b0_b3 nin0)
 have F_51 := F_22.keep Kz48 (ninS ne_b0_b3 nin0)
 have F_52 := F_23.keep Kz48 (ninS ne_b0_b3 nin0)
 have F_53 := F_24.keep Kz48 (ninS ne_b0_b3 nin0)
 have F_54 := F_25.keep Kz48 (ninS ne_b0_b3 nin0)
 have F_55 := F_26.keep Kz48 (ninS ne_b0_b3 nin0)
 have V_56 := V_27.keep Kz48 (ninS ne_b1_b3 nin0)
 have E_57 := E_28.keep Kz48
 have V_58 := V_34.keep Kz48 (ninS ne_b2_b3 nin0)
 have E_59 := E_29.keep Kz48
 have E_60 := E_31.keep Kz48
 have V_61 := V_32.keep Kz48 (ninS (Ne.symm ne_b3_b4) nin0)
 have E_62 := E_33.keep Kz48
 have V_63 : Arv Z h48 b3 k7 .int (4 : Int32) [(.int (0 : Int32)), (.int (0 : Int32)), (.int (0 : Int32)), (.int (0 : Int32))] (.int (0 : Int32)) := Vz48
 have O64 := O35.keep Kz48 (allS g_b3 all0)
 have K65 := Keep.trans K36 Kz48 (allS (Or.inl (List.mem_of_getElem? (i := 1) rfl)) all0)
 have p66 : ∀ t, St p e below T48 (mkF m 111 #[.val (.ref b0), .val (.int (0 : Int32)), .val (.ref b1)] []) t → S0 t := fun t k => p47 t (st48 t k)
 have p67 : ∀ t, St p e below T48 (mkF m 112 #[.val (.ref b0), .val (.int (0 : Int32)), .val (.ref b1)] [(.ref b0)]) t → S0 t := fun t k => p66 t (by
   refine XS.aloadN X48.here hx rfl (hb hby d5_111) rfl rfl ?_
   exact k)
 obtain ⟨T68, X68, e68, st68⟩ := getF X48 hx hZ hown (host := "") (Or.inl (ww hw 17 rfl)) Via.refl e48 F_52 (g := (mkF m 112 #[.val (.ref b0), .val (.int (0 : Int32)), .val (.ref b1)] [(.ref b0)])) rfl rfl (hb hby d5_112)
 have p69 : ∀ t, St p e below T68 (mkF m 115 #[.val (.ref b0), .val (.int (0 : Int32)), .val (.ref b1)] [(.ref b4)]) t → S0 t := fun t k => p67 t (st68 t k)
 have p70 : ∀ t, St p e below T68 (mkF m 117 #[.val (.ref b0), .val (.int (0 : Int32)), .val (.ref b1)] [(.ref b0), (.int (0 : Int32)), (.ref b4)]) t → S0 t := fun t k => p69 t (by
   refine XS.iloadN X68.here hx rfl (hb hby d5_115) rfl ?_
   refine XS.aloadN X68.here hx rfl (hb hby d5_116) rfl rfl ?_
   exact k)
 obtain ⟨T71, X71, e71, st71⟩ := getF X68 hx hZ hown (host := "") (Or.inl (ww hw 17 rfl)) Via.refl e68 F_52 (g := (mkF m 117 #[.val (.ref b0), .val (.int (0 : Int32)), .val (.ref b1)] [(.ref b0), (.int (0 : Int32)), (.ref b4)])) rfl rfl (hb hby d5_117)
 have p72 : ∀ t, St p e below T71 (mkF m 120 #[.val (.ref b0), .val (.int (0 : Int32)), .val (.ref b1)] [(.ref b4), (.int (0 : Int32)), (.ref b4)]) t → S0 t := fun t k => p70 t (st71 t k)
 have p73 : ∀ t, St p e below T71 (mkF m 124 #[.val (.ref b0), .val (.int (0 : Int32)), .val (.ref b1)] [(.ref b0), (.int (1 : Int32)), (.ref b4), (.int (0 : Int32)), (.ref b4)]) t → S0 t := fun t k => p72 t (by
   refine XS.iloadN X71.here hx rfl (hb hby d5_120) rfl ?_
   refine XT.iconstV X71.here hx rfl (1 : Int32) (hb hby d5_121) (by decide) ?_
   refine XS.iadd X71.here hx rfl (hb hby d5_122) rfl ?_
   refine XS.aloadN X71.here hx rfl (hb hby d5_123) rfl rfl ?_
   exact k)
 obtain ⟨T74, X74, e74, st74⟩ := getF X71 hx hZ hown (host := "") (Or.inl (ww hw 30 rfl)) Via.refl e71 F_54 (g := (mkF m 124 #[.val (.ref b0), .val (.int (0 : Int32)), .val (.ref b1)] [(.ref b0), (.int (1 : Int32)), (.ref b4), (.int (0 : Int32)), (.ref b4)])) rfl rfl (hb hby d5_124)
 have p75 : ∀ t, St p e below T74 (mkF m 127 #[.val (.ref b0), .val (.int (0 : Int32)), .val (.ref b1)] [(.int (0 : Int32)), (.int (1 : Int32)), (.ref b4), (.int (0 : Int32)), (.ref b4)]) t → S0 t := fun t k => p73 t (st74 t k)
 have p76 : ∀ t, St p e below T74 (mkF m 129 #[.val (.ref b0), .val (.int (0 : Int32)), .val (.ref b1)] [(.int (0 : Int32)), (.int (1 : Int32)), (.ref b4), (.int (0 : Int32)), (.ref b4)]) t → S0 t := fun t k => p75 t (by
   refine XS.iloadN X74.here hx rfl (hb hby d5_127) rfl ?_
   refine XS.isub X74.here hx rfl (hb hby d5_128) rfl ?_
   exact k)
 obtain ⟨T77, h77, Lz77, X77, e77, N77, Kz77, Vz77, st77⟩ := cpA X74 hx hZ hown (ww hw 36 rfl) (ww hw 39 rfl) (ww hw 37 rfl) (ww hw 38 rfl) e74 V_61 V_61 (Or.inl ⟨rfl, rfl⟩) (sp := (0 : Int32)) (dp := (1 : Int32)) (nn := (0 : Int32)) (by decide) (by decide) (by decide) (by decide) (by decide) (us := []) rfl (Nat.le_of_ble_eq_true rfl) N48 g_b4 (g := (mkF m 129 #[.val (.ref b0), .val (.int (0 : Int32)), .val (.ref b1)] [(.int (0 : Int32)), (.int (1 : Int32)), (.ref b4), (.int (0 : Int32)), (.ref b4)])) rfl (by rw [hml]; rfl) rfl (hb hby d5_129) (by decide) (W := 0) (by show 2 * 0 + _ ≤ _; exact Nat.le_of_eq rfl) (by decide)
 have E_78 := E_49.keep Kz77
 have F_79 := F_50.keep Kz77 (ninS ne_b0_b4 nin0)
 have F_80 := F_51.keep Kz77 (ninS ne_b0_b4 nin0)
 have F_81 := F_52.keep Kz77 (ninS ne_b0_b4 nin0)
 have F_82 := F_53.keep Kz77 (ninS ne_b0_b4 nin0)
 have F_83 := F_54.keep Kz77 (ninS ne_b0_b4 nin0)
 have F_84 := F_55.keep Kz77 (ninS ne_b0_b4 nin0)
 have V_85 := V_56.keep Kz77 (ninS ne_b1_b4 nin0)
 have E_86 := E_57.keep Kz77
 have V_87 := V_58.keep Kz77 (ninS ne_b2_b4 nin0)
 have E_88 := E_59.keep Kz77
 have V_89 := V_63.keep Kz77 (ninS ne_b3_b4 nin0)
 have E_90 := E_60.keep Kz77
 have E_91 := E_62.keep Kz77
 have V_92 : Arv Z h77 b4 k8 .boolean (4 : Int32) [(.int (0 : Int32)), (.int (0 : Int32)), (.int (0 : Int32)), (.int (0 : Int32))] (.int (0 : Int32)) := Vz77
 have O93 := O64.keep Kz77 (allS g_b4 all0)
 have K94 := Keep.trans K65 Kz77 (allS (Or.inl (List.mem_of_getElem? (i := 2) rfl)) all0)
 have p95 : ∀ t, St p e below T77 (mkF m 132 #[.val (.ref b0), .val (.int (0 : Int32)), .val (.ref b1)] []) t → S0 t := fun t k => p76 t (st77 t k)
 have p96 : ∀ t, St p e below T77 (mkF m 133 #[.val (.ref b0), .val (.int (0 : Int32)), .val (.ref b1)] [(.ref b0)]) t → S0 t := fun t k => p95 t (by
   refine XS.aloadN X77.here hx rfl (hb hby d5_132) rfl rfl ?_
   exact k)
 obtain ⟨T97, X97, e97, st97⟩ := getF X77 hx hZ hown (host := "") (Or.inl (ww hw 11 rfl)) Via.refl e77 F_79 (g := (mkF m 133 #[.val (.ref b0), .val (.int (0 : Int32)), .val (.ref b1)] [(.ref b0)])) rfl rfl (hb hby d5_133)
 have p98 : ∀ t, St p e below T97 (mkF m 136 #[.val (.ref b0), .val (.int (0 : Int32)), .val (.ref b1)] [(.ref b2)]) t → S0 t := fun t k => p96 t (st97 t k)
 have p99 : ∀ t, St p e below T97 (mkF m 138 #[.val (.ref b0), .val (.int (0 : Int32)), .val (.ref b1)] [(.ref b1), (.int (0 : Int32)), (.ref b2)]) t → S0 t := fun t k => p98 t (by
   refine XS.iloadN X97.here hx rfl (hb hby d5_136) rfl ?_
   refine XS.aloadN X97.here hx rfl (hb hby d5_137) rfl rfl ?_
   exact k)
 obtain ⟨cl100, Ar100, q100, Sz100, Nn100, Hs100, Gf100⟩ := id V_87
 have hin100 : ¬ ((0 : Int32) < 0 ∨ cl100.slots.size ≤ (0 : Int32).toNatClampNeg) := inb_of Sz100 ⟨by decide, by decide⟩
 obtain ⟨T100, h100, X100, e100, W100, st100⟩ := stR X97 hx hZ e97 Ar100 (j := (0 : Int32)) hin100 rfl (Sto.ofVA Ar100 q100 f11 (Ins.self E_86)) (g := (mkF m 138 #[.val (.ref b0), .val (.int (0 : Int32)), .val (.ref b1)] [(.ref b1), (.int (0 : Int32)), (.ref b2)])) rfl rfl (hb hby d5_138)
 have E_101 := E_78.wr W100
 have F_102 := F_79.other W100 (Or.inl ne_b0_b2)
 have F_103 := F_80.other W100 (Or.inl ne_b0_b2)
 have F_104 := F_81.other W100 (Or.inl ne_b0_b2)
 have F_105 := F_82.other W100 (Or.inl ne_b0_b2)
 have F_106 := F_83.other W100 (Or.inl ne_b0_b2)
 have F_107 := F_84.other W100 (Or.inl ne_b0_b2)
 have V_108 := V_85.other W100 ne_b1_b2
 have E_109 := E_86.wr W100
 have E_110 := E_88.wr W100
 have V_111 := V_89.other W100 (Ne.symm ne_b2_b3)
 have E_112 := E_90.wr W100
 have V_113 := V_92.other W100 (Ne.symm ne_b2_b4)
 have E_114 := E_91.wr W100
 have O115 := O93.wr W100 g_b2
 have K116 := K94.wr W100 (Or.inl (List.mem_of_getElem? (i := 0) rfl))
 have V_117 : Arv Z h100 b2 k6 (.array .int) (4 : Int32) [(.ref b1), .null, .null, .null] .null := Arv.set Ar100 q100 Sz100 Nn100 Hs100 Gf100 rfl W100 0 rfl (Nat.le_of_ble_eq_true rfl)
 have N118 := Fr.snoc X100 N77 g_b2
 have p119 : ∀ t, St p e below T100 (mkF m 139 #[.val (.ref b0), .val (.int (0 : Int32)), .val (.ref b1)] []) t → S0 t := fun t k => p99 t (st100 t k)
 have p120 : ∀ t, St p e below T100 (mkF m 140 #[.val (.ref b0), .val (.int (0 : Int32)), .val (.ref b1)] [(.ref b0)]) t → S0 t := fun t k => p119 t (by
   refine XS.aloadN X100.here hx rfl (hb hby d5_139) rfl rfl ?_
   exact k)
 obtain ⟨T121, X121, e121, st121⟩ := getF X100 hx hZ hown (host := "") (Or.inl (ww hw 14 rfl)) Via.refl e100 F_103 (g := (mkF m 140 #[.val (.ref b0), .val (.int (0 : Int32)), .val (.ref b1)] [(.ref b0)])) rfl rfl (hb hby d5_140)
 have p122 : ∀ t, St p e below T121 (mkF m 143 #[.val (.ref b0), .val (.int (0 : Int32)), .val (.ref b1)] [(.ref b3)]) t → S0 t := fun t k => p120 t (st121 t k)
 have p123 : ∀ t, St p e below T121 (mkF m 145 #[.val (.ref b0), .val (.int (0 : Int32)), .val (.ref b1)] [(.int (0 : Int32)), (.int (0 : Int32)), (.ref b3)]) t → S0 t := fun t k => p122 t (by
   refine XS.iloadN X121.here hx rfl (hb hby d5_143) rfl ?_
   refine XT.iconstV X121.here hx rfl (0 : Int32) (hb hby d5_144) (by decide) ?_
   exact k)
 obtain ⟨cl124, Ar124, q124, Sz124, Nn124, Hs124, Gf124⟩ := id V_111
 have hin124 : ¬ ((0 : Int32) < 0 ∨ cl124.slots.size ≤ (0 : Int32).toNatClampNeg) := inb_of Sz124 ⟨by decide, by decide⟩
 obtain ⟨T124, h124, X124, e124, W124, st124⟩ := stI X121 hx hZ e121 Ar124 (j := (0 : Int32)) hin124 (g := (mkF m 145 #[.val (.ref b0), .val (.int (0 : Int32)), .val (.ref b1)] [(.int (0 : Int32)), (.int (0 : Int32)), (.ref b3)])) rfl rfl (hb hby d5_145)
 have E_125 := E_101.wr W124
 have F_126 := F_102.other W124 (Or.inl ne_b0_b3)
 have F_127 := F_103.other W124 (Or.inl ne_b0_b3)
 have F_128 := F_104.other W124 (Or.inl ne_b0_b3)
 have F_129 := F_105.other W124 (Or.inl ne_b0_b3)
 have F_130 := F_106.other W124 (Or.inl ne_b0_b3)
 have F_131 := F_107.other W124 (Or.inl ne_b0_b3)
 have V_132 := V_108.other W124 ne_b1_b3
 have E_133 := E_109.wr W124
 have V_134 := V_117.other W124 ne_b2_b3
 have E_135 := E_110.wr W124
 have E_136 := E_112.wr W124
 have V_137 := V_113.other W124 (Ne.symm ne_b3_b4)
 have E_138 := E_114.wr W124
 have O139 := O115.wr W124 g_b3
 have K140 := K116.wr W124 (Or.inl (List.mem_of_getElem? (i := 1) rfl))
 have V_141 : Arv Z h124 b3 k7 .int (4 : Int32) [(.int (0 : Int32)), (.int (0 : Int32)), (.int (0 : Int32)), (.int (0 : Int32))] (.int (0 : Int32)) := Arv.set Ar124 q124 Sz124 Nn124 Hs124 Gf124 rfl W124 0 rfl (Nat.le_of_ble_eq_true rfl)
 have N142 := Fr.snoc X124 N118 g_b3
 have p143 : ∀ t, St p e below T124 (mkF m 146 #[.val (.ref b0), .val (.int (0 : Int32)), .val (.ref b1)] []) t → S0 t := fun t k => p123 t (st124 t k)
 have p144 : ∀ t, St p e below T124 (mkF m 147 #[.val (.ref b0), .val (.int (0 : Int32)), .val (.ref b1)] [(.ref b0)]) t → S0 t := fun t k => p143 t (by
   refine XS.aloadN X124.here hx rfl (hb hby d5_146) rfl rfl ?_
   exact k)
 obtain ⟨T145, X145, e145, st145⟩ := getF X124 hx hZ hown (host := "") (Or.inl (ww hw 17 rfl)) Via.refl e124 F_128 (g := (mkF m 147 #[.val (.ref b0), .val (.int (0 : Int32)), .val (.ref b1)] [(.ref b0)])) rfl rfl (hb hby d5_147)
 have p146 : ∀ t, St p e below T145 (mkF m 150 #[.val (.ref b0), .val (.int (0 : Int32)), .val (.ref b1)] [(.ref b4)]) t → S0 t := fun t k => p144 t (st145 t k)
 have p147 : ∀ t, St p e below T145 (mkF m 152 #[.val (.ref b0), .val (.int (0 : Int32)), .val (.ref b1)] [(.int (1 : Int32)), (.int (0 : Int32)), (.ref b4)]) t → S0 t := fun t k => p146 t (by
   refine XS.iloadN X145.here hx rfl (hb hby d5_150) rfl ?_
   refine XT.iconstV X145.here hx rfl (1 : Int32) (hb hby d5_151) (by decide) ?_
   exact k)
 obtain ⟨cl148, Ar148, q148, Sz148, Nn148, Hs148, Gf148⟩ := id V_137
 have hin148 : ¬ ((0 : Int32) < 0 ∨ cl148.slots.size ≤ (0 : Int32).toNatClampNeg) := inb_of Sz148 ⟨by decide, by decide⟩
 obtain ⟨T148, h148, X148, e148, W148, st148⟩ := stZ X145 hx hZ e145 Ar148 (j := (0 : Int32)) hin148 (g := (mkF m 152 #[.val (.ref b0), .val (.int (0 : Int32)), .val (.ref b1)] [(.int (1 : Int32)), (.int (0 : Int32)), (.ref b4)])) rfl rfl (hb hby d5_152)
 have E_149 := E_125.wr W148
 have F_150 := F_126.other W148 (Or.inl ne_b0_b4)
 have F_151 := F_127.other W148 (Or.inl ne_b0_b4)
 have F_152 := F_128.other W148 (Or.inl ne_b0_b4)
 have F_153 := F_129.other W148 (Or.inl ne_b0_b4)
 have F_154 := F_130.other W148 (Or.inl ne_b0_b4)
 have F_155 := F_131.other W148 (Or.inl ne_b0_b4)
 have V_156 := V_132.other W148 ne_b1_b4
 have E_157 := E_133.wr W148
 have V_158 := V_134.other W148 ne_b2_b4
 have E_159 := E_135.wr W148
 have V_160 := V_141.other W148 ne_b3_b4
 have E_161 := E_136.wr W148
 have E_162 := E_138.wr W148
 have O163 := O139.wr W148 g_b4
 have K164 := K140.wr W148 (Or.inl (List.mem_of_getElem? (i := 2) rfl))
 have V_165 : Arv Z h148 b4 k8 .boolean (4 : Int32) [(.int (1 : Int32)), (.int (0 : Int32)), (.int (0 : Int32)), (.int (0 : Int32))] (.int (0 : Int32)) := Arv.set Ar148 q148 Sz148 Nn148 Hs148 Gf148 (by decide) W148 0 rfl (Nat.le_of_ble_eq_true rfl)
 have N166 := Fr.snoc X148 N142 g_b4
 have p167 : ∀ t, St p e below T148 (mkF m 153 #[.val (.ref b0), .val (.int (0 : Int32)), .val (.ref b1)] []) t → S0 t := fun t k => p147 t (st148 t k)
 have p168 : ∀ t, St p e below T148 (mkF m 155 #[.val (.ref b0), .val (.int (0 : Int32)), .val (.ref b1)] [(.ref b0), (.ref b0)]) t → S0 t := fun t k => p167 t (by
   refine XS.aloadN X148.here hx rfl (hb hby d5_153) rfl rfl ?_
   refine XS.dup X148.here hx rfl (hb hby d5_154) rfl rfl ?_
   exact k)
 obtain ⟨T169, X169, e169, st169⟩ := getF X148 hx hZ hown (host := "") (Or.inl (ww hw 30 rfl)) Via.refl e148 F_154 (g := (mkF m 155 #[.val (.ref b0), .val (.int (0 : Int32)), .val (.ref b1)] [(.ref b0), (.ref b0)])) rfl rfl (hb hby d5_155)
 have p170 : ∀ t, St p e below T169 (mkF m 158 #[.val (.ref b0), .val (.int (0 : Int32)), .val (.ref b1)] [(.int (0 : Int32)), (.ref b0)]) t → S0 t := fun t k => p168 t (st169 t k)
 have p171 : ∀ t, St p e below T169 (mkF m 160 #[.val (.ref b0), .val (.int (0 : Int32)), .val (.ref b1)] [(.int (1 : Int32)), (.ref b0)]) t → S0 t := fun t k => p170 t (by
   refine XT.iconstV X169.here hx rfl (1 : Int32) (hb hby d5_158) (by decide) ?_
   refine XS.iadd X169.here hx rfl (hb hby d5_159) rfl ?_
   exact k)
 obtain ⟨T172, h172, X172, e172, W172, st172⟩ := putF X169 hx hZ hown (host := "") (Or.inl (ww hw 30 rfl)) Via.refl e169 F_154 E_149 (Or.inl (ww hw 31 rfl)) (ww hw 1 rfl) (ty := .int) (by decide) rfl rfl (g := (mkF m 160 #[.val (.ref b0), .val (.int (0 : Int32)), .val (.ref b1)] [(.int (1 : Int32)), (.ref b0)])) rfl rfl (hb hby d5_160)
 have E_173 := E_149.wr W172
 have F_174 := F_150.other W172 (Or.inr (sn15 hw))
 have F_175 := F_151.other W172 (Or.inr (sn16 hw))
 have F_176 := F_152.other W172 (Or.inr (sn17 hw))
 have F_177 := F_153.other W172 (Or.inr (sn18 hw))
 have F_178 := F_155.other W172 (Or.inr (sn19 hw))
 have V_179 := V_156.other W172 (Ne.symm ne_b0_b1)
 have E_180 := E_157.wr W172
 have V_181 := V_158.other W172 (Ne.symm ne_b0_b2)
 have E_182 := E_159.wr W172
 have V_183 := V_160.other W172 (Ne.symm ne_b0_b3)
 have E_184 := E_161.wr W172
 have V_185 := V_165.other W172 (Ne.symm ne_b0_b4)
 have E_186 := E_162.wr W172
 have O187 := O163.wr W172 g_b0
 have K188 := K164.wr W172 (Or.inl (List.mem_of_getElem? (i := 3) rfl))
 have F_189 : Fld Z h172 b0 "com/example/quadrille/quadrille/store/SortedTriples" "blockCount" "I" (.int (1 : Int32)) := F_154.same W172
 have N190 := Fr.snoc X172 N166 g_b0
 have p191 : ∀ t, St p e below T172 (mkF m 163 #[.val (.ref b0), .val (.int (0 : Int32)), .val (.ref b1)] []) t → S0 t := fun t k => p171 t (st172 t k)
 obtain ⟨fs, hr, hrun, hended, hW, hsame⟩ := X172.leave (v := none) (fun _ => rfl)
 refine ⟨_, _, p191 _ ?_, hrun, hended, _, _, rfl, ?_, ⟨_, rfl⟩, hW, hsame.mono (by decide) (by decide)⟩
 · exact X172.returnOut hx Bd.returns (hb hby d5_163) hr
 · show Q5_3 Z b0 b1 b2 b3 b4 k5 k6 k7 k8 h0 n0 _ T172.heap _
   rw [e172]
   exact ⟨N190, ⟨rfl, K188, E_173, F_174, F_175, F_176, F_177, F_189, F_178, V_181, E_182, f11, V_183, E_184, V_185, E_186⟩⟩
theorem pd1 : parseMethodDescriptor "(I[I)V" = some ⟨[.int, (.array .int)], none⟩ := by decide +kernel
theorem d3_17 : decode prog_155_method_6_code 17 = .ok (.invokevirtual 48, 3) := by decide +kernel
theorem d3_20 : decode prog_155_method_6_code 20 = .ok (.aload_n 0, 1) := by decide +kernel
theorem d3_21 : decode prog_155_method_6_code 21 = .ok (.iload_n 1, 1) := by decide +kernel
theorem d3_22 : decode prog_155_method_6_code 22 = .ok (.iload_n 2, 1) := by decide +kernel
theorem d3_23 : decode prog_155_method_6_code 23 = .ok (.iload_n 3, 1) := by decide +kernel
theorem ef5 (m : MethodId) (x0 : Addr) (x1 : Int32) (x2 : Int32) (x3 : Int32) : entryFrame m #[(.ref x0), (.int x1), (.int x2), (.int x3)] 7 = mkF m 0 #[.val (.ref x0), .val (.int x1), .val (.int x2), .val (.int x3), .unset, .unset, .unset] [] := by first | (simp [entryFrame, mkF, argsToLocals, Value.category]; done) | rfl
theorem d6_0 : decode prog_155_method_10_code 0 = .ok (.iconst 1, 1) := by decide +kernel
theorem d6_1 : decode prog_155_method_10_code 1 = .ok (.istore 4, 2) := by decide +kernel
theorem d6_3 : decode prog_155_method_10_code 3 = .ok (.aload_n 0, 1) := by decide +kernel
theorem d6_4 : decode prog_155_method_10_code 4 = .ok (.getfield 22, 3) := by decide +kernel
theorem d6_7 : decode prog_155_method_10_code 7 = .ok (.istore 5, 2) := by decide +kernel
theorem d6_9 : decode prog_155_method_10_code 9 = .ok (.iload 4, 2) := by decide +kernel
theorem d6_11 : decode prog_155_method_10_code 11 = .ok (.iload 5, 2) := by decide +kernel
theorem d6_13 : decode prog_155_method_10_code 13 = .ok (.if_icmp .ge 46, 3) := by decide +kernel
theorem d6_59 : decode prog_155_method_10_code 59 = .ok (.iload 4, 2) := by decide +kernel
theorem d6_61 : decode prog_155_method_10_code 61 = .ok (.iconst 1, 1) := by decide +kernel
theorem d6_62 : decode prog_155_method_10_code 62 = .ok (.isub, 1) := by decide +kernel
theorem d6_63 : decode prog_155_method_10_code 63 = .ok (.ireturn, 1) := by decide +kernel
def Q6_4 (Z : State) (i0 : Int32) (i1 : Int32) (i2 : Int32) (b0 : Addr) (h0 : Heap) (n0 : Nat) (v : Option Value) (h : Heap) (L : List Loc) : Prop := Fr n0 L ∧ h = h0 ∧ ((v = some (.int (0 : Int32))))
set_option maxRecDepth 65536 in
set_option maxHeartbeats 40000000 in
theorem rm6_4 (l : Launch) (Z : State) (a0 : Array Value) (hw : ∀ d ∈ tables_1, d.before a0 Z = true) (ws : List Jvm.Cond) (i0 : Int32) (i1 : Int32) (i2 : Int32) (b0 : Addr) (h0 : Heap) (n0 : Nat) (O0 : Old Z n0 h0)  (g_b0 : n0 ≤ b0) (f0 : Exa Z h0 b0 "com/example/quadrille/quadrille/store/SortedTriples") (f1 : Fld Z h0 b0 "com/example/quadrille/quadrille/store/SortedTriples" "blockCount" "I" (.int (1 : Int32))) :
    MetFree l M3 (head1 (Jvm.Cond.code M3 prog_155_method_10_code 7 (some .int) :: ws) ({ frames := 0, cells := 0, slots := 0, locals := 0 } : Room)) (fun a U => a = #[(.ref b0), (.int i0), (.int i1), (.int i2)] ∧ Z.Warmed39 U.vm ∧ U.heap = h0) (fun _ _ _ _ _ => True) (fun _ U o U' => ∃ v L, o = .returned v ∧ Q6_4 Z i0 i1 i2 b0 h0 n0 v U'.heap L ∧ FrameEnd U o U' L ({ frames := 0, cells := 0, slots := 0, locals := 0 } : Room).cells ({ frames := 0, cells := 0, slots := 0, locals := 0 } : Room).slots) := by
 refine MetFree.of_bodySF (plainFor_of_name pn1) hisR ?_
 intro p e s m args below meth c s₁ Bd hml0 hP hK
 obtain ⟨rfl, hZ, hh⟩ := hP
 have hx := Bd.exec
 have hby := Bd.bytes
 have hml : c.maxLocals = 7 := hml0
 have hown : s.vm.findClass "com/example/quadrille/quadrille/store/SortedTriples" = some m.cls := findClass_of_methodNamed Bd.named
 have hnm := (name_of_methodNamed Bd.named Bd.method).1
 have X0 : Stand p l e ({ frames := 0, cells := 0, slots := 0, locals := 0 } : Room) s m #[(.ref b0), (.int i0), (.int i1), (.int i2)] below meth c s₁ [] 0 0 := Stand.of_body Bd
 have e0 : s₁.heap = h0 := by rw [← hh, Bd.state]; rfl
 have N0 := Fr.nil n0
 let S0 : State → Prop := fun t => Steps p.tables e below (s₁.setTop (entryFrame m #[(.ref b0), (.int i0), (.int i1), (.int i2)] 7)) t
 let Ls1 : Array Slot := #[.val (.ref b0), .val (.int i0), .val (.int i1), .val (.int i2), .unset, .unset, .unset]
 have p0 : ∀ t, St p e below s₁ (mkF m 0 Ls1 []) t → S0 t := fun t k => castTop (ef5 m b0 i0 i1 i2) k
 let Ls2 : Array Slot := #[.val (.ref b0), .val (.int i0), .val (.int i1), .val (.int i2), .val (.int (1 : Int32)), .unset, .unset]
 have p3 : ∀ t, St p e below s₁ (mkF m 4 Ls2 [(.ref b0)]) t → S0 t := fun t k => p0 t (by
   refine XT.iconstV X0.here hx rfl (1 : Int32) (hb hby d6_0) (by decide) ?_
   refine XS.istore X0.here hx rfl (hb hby d6_1) rfl (l' := Ls2) rfl ?_
   refine XS.aloadN X0.here hx rfl (hb hby d6_3) rfl rfl ?_
   exact k)
 obtain ⟨T4, X4, e4, st4⟩ := getF X0 hx hZ hown (host := "") (Or.inl (ww hw 30 rfl)) Via.refl e0 f1 (g := (mkF m 4 Ls2 [(.ref b0)])) rfl rfl (hb hby d6_4)
 have p5 : ∀ t, St p e below T4 (mkF m 7 Ls2 [(.int (1 : Int32))]) t → S0 t := fun t k => p3 t (st4 t k)
 let Ls6 : Array Slot := #[.val (.ref b0), .val (.int i0), .val (.int i1), .val (.int i2), .val (.int (1 : Int32)), .val (.int (1 : Int32)), .unset]
 have p7 : ∀ t, St p e below T4 (mkF m 63 Ls6 [(.int (0 : Int32))]) t → S0 t := fun t k => p5 t (by
   refine XS.istore X4.here hx rfl (hb hby d6_7) rfl (l' := Ls6) rfl ?_
   refine XS.iload X4.here hx rfl (hb hby d6_9) rfl ?_
   refine XS.iload X4.here hx rfl (hb hby d6_11) rfl ?_
   refine XS.icmpYes X4.here hx rfl (pc0 := 13) (pc' := 59) rfl (hb hby d6_13) rfl (flt (by decide : ¬ ((1 : Int32) < (1 : Int32)))).2.1 (by decide) (by decide) ?_
   refine XS.iload X4.here hx rfl (hb hby d6_59) rfl ?_
   show St p e below T4 (mkF m 61 Ls6 [(.int (1 : Int32))]) t
   refine XT.iconstV X4.here hx rfl (1 : Int32) (hb hby d6_61) (by decide) ?_
   refine XS.isub X4.here hx rfl (hb hby d6_62) rfl ?_
   exact k)
 obtain ⟨fs, hr, hrun, hended, hW, hsame⟩ := X4.leave (v := some (.int (0 : Int32))) (fun h => by rw [Bd.returns] at h; cases h)
 refine ⟨_, _, p7 _ ?_, hrun, hended, _, _, rfl, ?_, ⟨_, rfl⟩, hW, hsame.mono (by decide) (by decide)⟩
 · exact retOut X4 hx Bd.returns rfl (Or.inl ⟨rfl, by simp, _, rfl⟩) (hb hby d6_63) hr
 · show Q6_4 Z i0 i1 i2 b0 h0 n0 _ T4.heap _
   exact ⟨N0, e4, rfl⟩
theorem pd2 : parseMethodDescriptor "(III)I" = some ⟨[.int, .int, .int], some .int⟩ := by decide +kernel
theorem d3_24 : decode prog_155_method_6_code 24 = .ok (.invokevirtual 37, 3) := by decide +kernel
theorem d3_27 : decode prog_155_method_6_code 27 = .ok (.istore 4, 2) := by decide +kernel
theorem d3_29 : decode prog_155_method_6_code 29 = .ok (.aload_n 0, 1) := by decide +kernel
theorem d3_30 : decode prog_155_method_6_code 30 = .ok (.getfield 11, 3) := by decide +kernel
theorem d3_33 : decode prog_155_method_6_code 33 = .ok (.iload 4, 2) := by decide +kernel
theorem d3_35 : decode prog_155_method_6_code 35 = .ok (.aaload, 1) := by decide +kernel
theorem d3_36 : decode prog_155_method_6_code 36 = .ok (.aload_n 0, 1) := by decide +kernel
theorem d3_37 : decode prog_155_method_6_code 37 = .ok (.getfield 15, 3) := by decide +kernel
theorem d3_40 : decode prog_155_method_6_code 40 = .ok (.iload 4, 2) := by decide +kernel
theorem d3_42 : decode prog_155_method_6_code 42 = .ok (.iaload, 1) := by decide +kernel
theorem d3_43 : decode prog_155_method_6_code 43 = .ok (.iload_n 1, 1) := by decide +kernel
theorem d3_44 : decode prog_155_method_6_code 44 = .ok (.iload_n 2, 1) := by decide +kernel
theorem d3_45 : decode prog_155_method_6_code 45 = .ok (.iload_n 3, 1) := by decide +kernel
theorem ef6 (m : MethodId) (x0 : Addr) (x1 : Int32) (x2 : Int32) (x3 : Int32) (x4 : Int32) : entryFrame m #[(.ref x0), (.int x1), (.int x2), (.int x3), (.int x4)] 9 = mkF m 0 #[.val (.ref x0), .val (.int x1), .val (.int x2), .val (.int x3), .val (.int x4), .unset, .unset, .unset, .unset] [] := by first | (simp [entryFrame, mkF, argsToLocals, Value.category]; done) | rfl
theorem d7_0 : decode prog_155_method_11_code 0 = .ok (.iconst 0, 1) := by decide +kernel
theorem d7_1 : decode prog_155_method_11_code 1 = .ok (.istore 5, 2) := by decide +kernel
theorem d7_3 : decode prog_155_method_11_code 3 = .ok (.iload_n 1, 1) := by decide +kernel
theorem d7_4 : decode prog_155_method_11_code 4 = .ok (.istore 6, 2) := by decide +kernel
theorem d7_6 : decode prog_155_method_11_code 6 = .ok (.iload 5, 2) := by decide +kernel
theorem d7_8 : decode prog_155_method_11_code 8 = .ok (.iload 6, 2) := by decide +kernel
theorem d7_10 : decode prog_155_method_11_code 10 = .ok (.if_icmp .ge 59, 3) := by decide +kernel
theorem d7_69 : decode prog_155_method_11_code 69 = .ok (.iload 5, 2) := by decide +kernel
theorem d7_71 : decode prog_155_method_11_code 71 = .ok (.ineg, 1) := by decide +kernel
theorem d7_72 : decode prog_155_method_11_code 72 = .ok (.iconst 1, 1) := by decide +kernel
theorem d7_73 : decode prog_155_method_11_code 73 = .ok (.isub, 1) := by decide +kernel
theorem d7_74 : decode prog_155_method_11_code 74 = .ok (.ireturn, 1) := by decide +kernel
def Q7_5 (Z : State) (i0 : Int32) (i1 : Int32) (i2 : Int32) (i3 : Int32) (i4 : Int32) (i5 : Int32) (i6 : Int32) (i7 : Int32) (i8 : Int32) (i9 : Int32) (i10 : Int32) (i11 : Int32) (i12 : Int32) (i13 : Int32) (i14 : Int32) (b0 : Addr) (k1 : ClassId) (h0 : Heap) (n0 : Nat) (v : Option Value) (h : Heap) (L : List Loc) : Prop := Fr n0 L ∧ h = h0 ∧ ((v = some (.int (-1 : Int32))))
set_option maxRecDepth 65536 in
set_option maxHeartbeats 40000000 in
theorem rm7_5 (l : Launch) (Z : State) (a0 : Array Value) (hw : ∀ d ∈ tables_1, d.before a0 Z = true) (ws : List Jvm.Cond) (i0 : Int32) (i1 : Int32) (i2 : Int32) (i3 : Int32) (i4 : Int32) (i5 : Int32) (i6 : Int32) (i7 : Int32) (i8 : Int32) (i9 : Int32) (i10 : Int32) (i11 : Int32) (i12 : Int32) (i13 : Int32) (i14 : Int32) (b0 : Addr) (k1 : ClassId) (h0 : Heap) (n0 : Nat) (O0 : Old Z n0 h0)  (g_b0 : n0 ≤ b0) (f0 : Arv Z h0 b0 k1 .int (12 : Int32) [(.int i3), (.int i4), (.int i5), (.int i6), (.int i7), (.int i8), (.int i9), (.int i10), (.int i11), (.int i12), (.int i13), (.int i14)] (.int (0 : Int32))) (f1 : Exa Z h0 b0 "[I") :
    MetFree l M4 (head1 (Jvm.Cond.code M4 prog_155_method_11_code 9 (some .int) :: ws) ({ frames := 0, cells := 0, slots := 0, locals := 0 } : Room)) (fun a U => a = #[(.ref b0), (.int (0 : Int32)), (.int i0), (.int i1), (.int i2)] ∧ Z.Warmed39 U.vm ∧ U.heap = h0) (fun _ _ _ _ _ => True) (fun _ U o U' => ∃ v L, o = .returned v ∧ Q7_5 Z i0 i1 i2 i3 i4 i5 i6 i7 i8 i9 i10 i11 i12 i13 i14 b0 k1 h0 n0 v U'.heap L ∧ FrameEnd U o U' L ({ frames := 0, cells := 0, slots := 0, locals := 0 } : Room).cells ({ frames := 0, cells := 0, slots := 0, locals := 0 } : Room).slots) := by
 refine MetFree.of_bodySF (plainFor_of_name pn1) hisR ?_
 intro p e s m args below meth c s₁ Bd hml0 hP hK
 obtain ⟨rfl, hZ, hh⟩ := hP
 have hx := Bd.exec
 have hby := Bd.bytes
 have hml : c.maxLocals = 9 := hml0
 have hown : s.vm.findClass "com/example/quadrille/quadrille/store/SortedTriples" = some m.cls := findClass_of_methodNamed Bd.named
 have hnm := (name_of_methodNamed Bd.named Bd.method).1
 have X0 : Stand p l e ({ frames := 0, cells := 0, slots := 0, locals := 0 } : Room) s m #[(.ref b0), (.int (0 : Int32)), (.int i0), (.int i1), (.int i2)] below meth c s₁ [] 0 0 := Stand.of_body Bd
 have e0 : s₁.heap = h0 := by rw [← hh, Bd.state]; rfl
 have N0 := Fr.nil n0
 let S0 : State → Prop := fun t => Steps p.tables e below (s₁.setTop (entryFrame m #[(.ref b0), (.int (0 : Int32)), (.int i0), (.int i1), (.int i2)] 9)) t
 let Ls1 : Array Slot := #[.val (.ref b0), .val (.int (0 : Int32)), .val (.int i0), .val (.int i1), .val (.int i2), .unset, .unset, .unset, .unset]
 have p0 : ∀ t, St p e below s₁ (mkF m 0 Ls1 []) t → S0 t := fun t k => castTop (ef6 m b0 (0 : Int32) i0 i1 i2) k
 let Ls2 : Array Slot := #[.val (.ref b0), .val (.int (0 : Int32)), .val (.int i0), .val (.int i1), .val (.int i2), .val (.int (0 : Int32)), .unset, .unset, .unset]
 let Ls3 : Array Slot := #[.val (.ref b0), .val (.int (0 : Int32)), .val (.int i0), .val (.int i1), .val (.int i2), .val (.int (0 : Int32)), .val (.int (0 : Int32)), .unset, .unset]
 have p4 : ∀ t, St p e below s₁ (mkF m 74 Ls3 [(.int (-1 : Int32))]) t → S0 t := fun t k => p0 t (by
   refine XT.iconstV X0.here hx rfl (0 : Int32) (hb hby d7_0) (by decide) ?_
   refine XS.istore X0.here hx rfl (hb hby d7_1) rfl (l' := Ls2) rfl ?_
   refine XS.iloadN X0.here hx rfl (hb hby d7_3) rfl ?_
   refine XS.istore X0.here hx rfl (hb hby d7_4) rfl (l' := Ls3) rfl ?_
   refine XS.iload X0.here hx rfl (hb hby d7_6) rfl ?_
   show St p e below s₁ (mkF m 8 Ls3 [(.int (0 : Int32))]) t
   refine XS.iload X0.here hx rfl (hb hby d7_8) rfl ?_
   refine XS.icmpYes X0.here hx rfl (pc0 := 10) (pc' := 69) rfl (hb hby d7_10) rfl (flt (by decide : ¬ ((0 : Int32) < (0 : Int32)))).2.1 (by decide) (by decide) ?_
   refine XS.iload X0.here hx rfl (hb hby d7_69) rfl ?_
   refine XS.ineg X0.here hx rfl (hb hby d7_71) rfl ?_
   refine XT.iconstV X0.here hx rfl (1 : Int32) (hb hby d7_72) (by decide) ?_
   refine XS.isub X0.here hx rfl (hb hby d7_73) rfl ?_
   exact k)
 obtain ⟨fs, hr, hrun, hended, hW, hsame⟩ := X0.leave (v := some (.int (-1 : Int32))) (fun h => by rw [Bd.returns] at h; cases h)
 refine ⟨_, _, p4 _ ?_, hrun, hended, _, _, rfl, ?_, ⟨_, rfl⟩, hW, hsame.mono (by decide) (by decide)⟩
 · exact retOut X0 hx Bd.returns rfl (Or.inl ⟨rfl, by simp, _, rfl⟩) (hb hby d7_74) hr
 · show Q7_5 Z i0 i1 i2 i3 i4 i5 i6 i7 i8 i9 i10 i11 i12 i13 i14 b0 k1 h0 n0 _ s₁.heap _
   exact ⟨N0, e0, rfl⟩
theorem pd3 : parseMethodDescriptor "([IIIII)I" = some ⟨[(.array .int), .int, .int, .int, .int], some .int⟩ := by decide +kernel
theorem d3_46 : decode prog_155_method_6_code 46 = .ok (.invokestatic 41, 3) := by decide +kernel
theorem d3_49 : decode prog_155_method_6_code 49 = .ok (.istore 5, 2) := by decide +kernel
theorem d3_51 : decode prog_155_method_6_code 51 = .ok (.iload 5, 2) := by decide +kernel
theorem d3_53 : decode prog_155_method_6_code 53 = .ok (.ifCond .lt 5, 3) := by decide +kernel
theorem d3_58 : decode prog_155_method_6_code 58 = .ok (.iload 5, 2) := by decide +kernel
theorem d3_60 : decode prog_155_method_6_code 60 = .ok (.ineg, 1) := by decide +kernel
theorem d3_61 : decode prog_155_method_6_code 61 = .ok (.iconst 1, 1) := by decide +kernel
theorem d3_62 : decode prog_155_method_6_code 62 = .ok (.isub, 1) := by decide +kernel
theorem d3_63 : decode prog_155_method_6_code 63 = .ok (.istore 5, 2) := by decide +kernel
theorem d3_65 : decode prog_155_method_6_code 65 = .ok (.aload_n 0, 1) := by decide +kernel
theorem d3_66 : decode prog_155_method_6_code 66 = .ok (.getfield 15, 3) := by decide +kernel
theorem d3_69 : decode prog_155_method_6_code 69 = .ok (.iload 4, 2) := by decide +kernel
theorem d3_71 : decode prog_155_method_6_code 71 = .ok (.iaload, 1) := by decide +kernel
theorem d3_72 : decode prog_155_method_6_code 72 = .ok (.sipush 256, 3) := by decide +kernel
theorem d3_75 : decode prog_155_method_6_code 75 = .ok (.if_icmp .ne 66, 3) := by decide +kernel
theorem d3_141 : decode prog_155_method_6_code 141 = .ok (.aload_n 0, 1) := by decide +kernel
theorem d3_142 : decode prog_155_method_6_code 142 = .ok (.getfield 11, 3) := by decide +kernel
theorem d3_145 : decode prog_155_method_6_code 145 = .ok (.iload 4, 2) := by decide +kernel
theorem d3_147 : decode prog_155_method_6_code 147 = .ok (.aaload, 1) := by decide +kernel
theorem d3_148 : decode prog_155_method_6_code 148 = .ok (.astore 6, 2) := by decide +kernel
theorem d3_150 : decode prog_155_method_6_code 150 = .ok (.aload_n 0, 1) := by decide +kernel
theorem d3_151 : decode prog_155_method_6_code 151 = .ok (.getfield 15, 3) := by decide +kernel
theorem d3_154 : decode prog_155_method_6_code 154 = .ok (.iload 4, 2) := by decide +kernel
theorem d3_156 : decode prog_155_method_6_code 156 = .ok (.iaload, 1) := by decide +kernel
theorem d3_157 : decode prog_155_method_6_code 157 = .ok (.istore 7, 2) := by decide +kernel
theorem d3_159 : decode prog_155_method_6_code 159 = .ok (.iload 7, 2) := by decide +kernel
theorem d3_161 : decode prog_155_method_6_code 161 = .ok (.iconst 3, 1) := by decide +kernel
theorem d3_162 : decode prog_155_method_6_code 162 = .ok (.imul, 1) := by decide +kernel
theorem d3_163 : decode prog_155_method_6_code 163 = .ok (.aload 6, 2) := by decide +kernel
theorem d3_165 : decode prog_155_method_6_code 165 = .ok (.arraylength, 1) := by decide +kernel
theorem d3_166 : decode prog_155_method_6_code 166 = .ok (.if_icmp .ne 41, 3) := by decide +kernel
theorem d3_207 : decode prog_155_method_6_code 207 = .ok (.aload_n 0, 1) := by decide +kernel
theorem d3_208 : decode prog_155_method_6_code 208 = .ok (.iload 4, 2) := by decide +kernel
theorem ef7 (m : MethodId) (x0 : Addr) (x1 : Int32) : entryFrame m #[(.ref x0), (.int x1)] 2 = mkF m 0 #[.val (.ref x0), .val (.int x1)] [] := by first | (simp [entryFrame, mkF, argsToLocals, Value.category]; done) | rfl
theorem d8_0 : decode prog_155_method_15_code 0 = .ok (.aload_n 0, 1) := by decide +kernel
theorem d8_1 : decode prog_155_method_15_code 1 = .ok (.getfield 18, 3) := by decide +kernel
theorem d8_4 : decode prog_155_method_15_code 4 = .ok (.iload_n 1, 1) := by decide +kernel
theorem d8_5 : decode prog_155_method_15_code 5 = .ok (.baload, 1) := by decide +kernel
theorem d8_6 : decode prog_155_method_15_code 6 = .ok (.ifCond .ne 28, 3) := by decide +kernel
theorem d8_34 : decode prog_155_method_15_code 34 = .ok (.aload_n 0, 1) := by decide +kernel
theorem d8_35 : decode prog_155_method_15_code 35 = .ok (.getfield 11, 3) := by decide +kernel
theorem d8_38 : decode prog_155_method_15_code 38 = .ok (.iload_n 1, 1) := by decide +kernel
theorem d8_39 : decode prog_155_method_15_code 39 = .ok (.aaload, 1) := by decide +kernel
theorem d8_40 : decode prog_155_method_15_code 40 = .ok (.areturn, 1) := by decide +kernel
def Q8_6 (Z : State) (b0 : Addr) (b1 : Addr) (b2 : Addr) (b3 : Addr) (k4 : ClassId) (k5 : ClassId) (h0 : Heap) (n0 : Nat) (v : Option Value) (h : Heap) (L : List Loc) : Prop := Fr n0 L ∧ h = h0 ∧ ((v = some (.ref b3)))
set_option maxRecDepth 65536 in
set_option maxHeartbeats 40000000 in
theorem rm8_6 (l : Launch) (Z : State) (a0 : Array Value) (hw : ∀ d ∈ tables_1, d.before a0 Z = true) (ws : List Jvm.Cond) (b0 : Addr) (b1 : Addr) (b2 : Addr) (b3 : Addr) (k4 : ClassId) (k5 : ClassId) (h0 : Heap) (n0 : Nat) (O0 : Old Z n0 h0)  (g_b0 : n0 ≤ b0) (g_b1 : n0 ≤ b1) (g_b2 : n0 ≤ b2) (g_b3 : n0 ≤ b3) (ne_b0_b1 : b0 ≠ b1) (ne_b0_b2 : b0 ≠ b2) (ne_b0_b3 : b0 ≠ b3) (ne_b1_b2 : b1 ≠ b2) (ne_b1_b3 : b1 ≠ b3) (ne_b2_b3 : b2 ≠ b3) (f0 : Exa Z h0 b0 "com/example/quadrille/quadrille/store/SortedTriples") (f1 : Fld Z h0 b0 "com/example/quadrille/quadrille/store/SortedTriples" "blocks" "[[I" (.ref b1)) (f2 : Fld Z h0 b0 "com/example/quadrille/quadrille/store/SortedTriples" "owned" "[Z" (.ref b2)) (f3 : Arv Z h0 b1 k4 (.array .int) (4 : Int32) [(.ref b3), .null, .null, .null] .null) (f4 : Exa Z h0 b1 "[[I") (f5 : Arv Z h0 b2 k5 .boolean (4 : Int32) [(.int (1 : Int32)), (.int (0 : Int32)), (.int (0 : Int32)), (.int (0 : Int32))] (.int (0 : Int32))) (f6 : Exa Z h0 b2 "[Z") (f7 : Exa Z h0 b3 "[I") :
    MetFree l M5 (head1 (Jvm.Cond.code M5 prog_155_method_15_code 2 (some (.array .int)) :: ws) ({ frames := 0, cells := 0, slots := 0, locals := 0 } : Room)) (fun a U => a = #[(.ref b0), (.int (0 : Int32))] ∧ Z.Warmed39 U.vm ∧ U.heap = h0) (fun _ _ _ _ _ => True) (fun _ U o U' => ∃ v L, o = .returned v ∧ Q8_6 Z b0 b1 b2 b3 k4 k5 h0 n0 v U'.heap L ∧ FrameEnd U o U' L ({ frames := 0, cells := 0, slots := 0, locals := 0 } : Room).cells ({ frames := 0, cells := 0, slots := 0, locals := 0 } : Room).slots) := by
 refine MetFree.of_bodySF (plainFor_of_name pn1) hisR ?_
 intro p e s m args below meth c s₁ Bd hml0 hP hK
 obtain ⟨rfl, hZ, hh⟩ := hP
 have hx := Bd.exec
 have hby := Bd.bytes
 have hml : c.maxLocals = 2 := hml0
 have hown : s.vm.findClass "com/example/quadrille/quadrille/store/SortedTriples" = some m.cls := findClass_of_methodNamed Bd.named
 have hnm := (name_of_methodNamed Bd.named Bd.method).1
 have X0 : Stand p l e ({ frames := 0, cells := 0, slots := 0, locals := 0 } : Room) s m #[(.ref b0), (.int (0 : Int32))] below meth c s₁ [] 0 0 := Stand.of_body Bd
 have e0 : s₁.heap = h0 := by rw [← hh, Bd.state]; rfl
 have N0 := Fr.nil n0
 let S0 : State → Prop := fun t => Steps p.tables e below (s₁.setTop (entryFrame m #[(.ref b0), (.int (0 : Int32))] 2)) t
 have p0 : ∀ t, St p e below s₁ (mkF m 0 #[.val (.ref b0), .val (.int (0 : Int32))] []) t → S0 t := fun t k => castTop (ef7 m b0 (0 : Int32)) k
 have p1 : ∀ t, St p e below s₁ (mkF m 1 #[.val (.ref b0), .val (.int (0 : Int32))] [(.ref b0)]) t → S0 t := fun t k => p0 t (by
   refine XS.aloadN X0.here hx rfl (hb hby d8_0) rfl rfl ?_
   exact k)
 obtain ⟨T2, X2, e2, st2⟩ := getF X0 hx hZ hown (host := "") (Or.inl (ww hw 17 rfl)) Via.refl e0 f2 (g := (mkF m 1 #[.val (.ref b0), .val (.int (0 : Int32))] [(.ref b0)])) rfl rfl (hb hby d8_1)
 have p3 : ∀ t, St p e below T2 (mkF m 4 #[.val (.ref b0), .val (.int (0 : Int32))] [(.ref b2)]) t → S0 t := fun t k => p1 t (st2 t k)
 have p4 : ∀ t, St p e below T2 (mkF m 5 #[.val (.ref b0), .val (.int (0 : Int32))] [(.int (0 : Int32)), (.ref b2)]) t → S0 t := fun t k => p3 t (by
   refine XS.iloadN X2.here hx rfl (hb hby d8_4) rfl ?_
   exact k)
 obtain ⟨cl5, Ar5, -, Sz5, -, Hs5, -⟩ := id f5
 have hin5 : ¬ ((0 : Int32) < 0 ∨ cl5.slots.size ≤ (0 : Int32).toNatClampNeg) := inb_of Sz5 ⟨by decide, by decide⟩
 have hat5 : cl5.slots[(0 : Int32).toNatClampNeg]? = some (.int (1 : Int32)) := Hs5.at hin5 rfl
 have p6 : ∀ t, St p e below T2 (mkF m 35 #[.val (.ref b0), .val (.int (0 : Int32))] [(.ref b0)]) t → S0 t := fun t k => p4 t (by
   refine X2.baloadBooleans hx (j := (0 : Int32)) (v := (.int (1 : Int32))) (by rw [e2]; exact Ar5.1) (State.isArrayOf_alike hZ.alike Ar5.2.1) Ar5.2.2 hin5 hat5 (g := (mkF m 5 #[.val (.ref b0), .val (.int (0 : Int32))] [(.int (0 : Int32)), (.ref b2)])) rfl rfl (hb hby d8_5) _ ?_
   refine XS.ifYes X2.here hx rfl (pc0 := 6) (pc' := 34) rfl (hb hby d8_6) rfl ((if0 _ _).trans (feq (by decide : ¬ ((1 : Int32) = (0 : Int32)))).2) (by decide) (by decide) ?_
   refine XS.aloadN X2.here hx rfl (hb hby d8_34) rfl rfl ?_
   exact k)
 obtain ⟨T7, X7, e7, st7⟩ := getF X2 hx hZ hown (host := "") (Or.inl (ww hw 11 rfl)) Via.refl e2 f1 (g := (mkF m 35 #[.val (.ref b0), .val (.int (0 : Int32))] [(.ref b0)])) rfl rfl (hb hby d8_35)
 have p8 : ∀ t, St p e below T7 (mkF m 38 #[.val (.ref b0), .val (.int (0 : Int32))] [(.ref b1)]) t → S0 t := fun t k => p6 t (st7 t k)
 have p9 : ∀ t, St p e below T7 (mkF m 39 #[.val (.ref b0), .val (.int (0 : Int32))] [(.int (0 : Int32)), (.ref b1)]) t → S0 t := fun t k => p8 t (by
   refine XS.iloadN X7.here hx rfl (hb hby d8_38) rfl ?_
   exact k)
 obtain ⟨cl10, Ar10, -, Sz10, -, Hs10, -⟩ := id f3
 have hin10 : ¬ ((0 : Int32) < 0 ∨ cl10.slots.size ≤ (0 : Int32).toNatClampNeg) := inb_of Sz10 ⟨by decide, by decide⟩
 have hat10 : cl10.slots[(0 : Int32).toNatClampNeg]? = some (.ref b3) := Hs10.at hin10 rfl
 have p11 : ∀ t, St p e below T7 (mkF m 40 #[.val (.ref b0), .val (.int (0 : Int32))] [(.ref b3)]) t → S0 t := fun t k => p9 t (by
   refine X7.aaload hx (j := (0 : Int32)) (v := (.ref b3)) (by rw [e7]; exact Ar10.1) (State.isArrayOf_alike hZ.alike Ar10.2.1) rfl Ar10.2.2 hin10 hat10 (g := (mkF m 39 #[.val (.ref b0), .val (.int (0 : Int32))] [(.int (0 : Int32)), (.ref b1)])) rfl rfl (hb hby d8_39) _ ?_
   exact k)
 obtain ⟨fs, hr, hrun, hended, hW, hsame⟩ := X7.leave (v := some (.ref b3)) (fun h => by rw [Bd.returns] at h; cases h)
 refine ⟨_, _, p11 _ ?_, hrun, hended, _, _, rfl, ?_, ⟨_, rfl⟩, hW, hsame.mono (by decide) (by decide)⟩
 · exact retOut X7 hx Bd.returns rfl (Or.inr (Or.inr (Or.inr (Or.inr ⟨rfl, rfl, rfl⟩)))) (hb hby d8_40) hr
 · show Q8_6 Z b0 b1 b2 b3 k4 k5 h0 n0 _ T7.heap _
   exact ⟨N0, e7, rfl⟩
theorem pd4 : parseMethodDescriptor "(I)[I" = some ⟨[.int], some (.array .int)⟩ := by decide +kernel
theorem d3_210 : decode prog_155_method_6_code 210 = .ok (.invokevirtual 68, 3) := by decide +kernel
theorem d3_213 : decode prog_155_method_6_code 213 = .ok (.astore 6, 2) := by decide +kernel
theorem d3_215 : decode prog_155_method_6_code 215 = .ok (.aload 6, 2) := by decide +kernel
theorem d3_217 : decode prog_155_method_6_code 217 = .ok (.iload 5, 2) := by decide +kernel
theorem d3_219 : decode prog_155_method_6_code 219 = .ok (.iconst 3, 1) := by decide +kernel
theorem d3_220 : decode prog_155_method_6_code 220 = .ok (.imul, 1) := by decide +kernel
theorem d3_221 : decode prog_155_method_6_code 221 = .ok (.aload 6, 2) := by decide +kernel
theorem d3_223 : decode prog_155_method_6_code 223 = .ok (.iload 5, 2) := by decide +kernel
theorem d3_225 : decode prog_155_method_6_code 225 = .ok (.iconst 1, 1) := by decide +kernel
theorem d3_226 : decode prog_155_method_6_code 226 = .ok (.iadd, 1) := by decide +kernel
theorem d3_227 : decode prog_155_method_6_code 227 = .ok (.iconst 3, 1) := by decide +kernel
theorem d3_228 : decode prog_155_method_6_code 228 = .ok (.imul, 1) := by decide +kernel
theorem d3_229 : decode prog_155_method_6_code 229 = .ok (.iload 7, 2) := by decide +kernel
theorem d3_231 : decode prog_155_method_6_code 231 = .ok (.iload 5, 2) := by decide +kernel
theorem d3_233 : decode prog_155_method_6_code 233 = .ok (.isub, 1) := by decide +kernel
theorem d3_234 : decode prog_155_method_6_code 234 = .ok (.iconst 3, 1) := by decide +kernel
theorem d3_235 : decode prog_155_method_6_code 235 = .ok (.imul, 1) := by decide +kernel
theorem d3_236 : decode prog_155_method_6_code 236 = .ok (.invokestatic 72, 3) := by decide +kernel
theorem d3_239 : decode prog_155_method_6_code 239 = .ok (.aload 6, 2) := by decide +kernel
theorem d3_241 : decode prog_155_method_6_code 241 = .ok (.iload 5, 2) := by decide +kernel
theorem d3_243 : decode prog_155_method_6_code 243 = .ok (.iconst 3, 1) := by decide +kernel
theorem d3_244 : decode prog_155_method_6_code 244 = .ok (.imul, 1) := by decide +kernel
theorem d3_245 : decode prog_155_method_6_code 245 = .ok (.iload_n 1, 1) := by decide +kernel
theorem d3_246 : decode prog_155_method_6_code 246 = .ok (.iastore, 1) := by decide +kernel
theorem d3_247 : decode prog_155_method_6_code 247 = .ok (.aload 6, 2) := by decide +kernel
theorem d3_249 : decode prog_155_method_6_code 249 = .ok (.iload 5, 2) := by decide +kernel
theorem d3_251 : decode prog_155_method_6_code 251 = .ok (.iconst 3, 1) := by decide +kernel
theorem d3_252 : decode prog_155_method_6_code 252 = .ok (.imul, 1) := by decide +kernel
theorem d3_253 : decode prog_155_method_6_code 253 = .ok (.iconst 1, 1) := by decide +kernel
theorem d3_254 : decode prog_155_method_6_code 254 = .ok (.iadd, 1) := by decide +kernel
theorem d3_255 : decode prog_155_method_6_code 255 = .ok (.iload_n 2, 1) := by decide +kernel
theorem d3_256 : decode prog_155_method_6_code 256 = .ok (.iastore, 1) := by decide +kernel
theorem d3_257 : decode prog_155_method_6_code 257 = .ok (.aload 6, 2) := by decide +kernel
theorem d3_259 : decode prog_155_method_6_code 259 = .ok (.iload 5, 2) := by decide +kernel
theorem d3_261 : decode prog_155_method_6_code 261 = .ok (.iconst 3, 1) := by decide +kernel
theorem d3_262 : decode prog_155_method_6_code 262 = .ok (.imul, 1) := by decide +kernel
theorem d3_263 : decode prog_155_method_6_code 263 = .ok (.iconst 2, 1) := by decide +kernel
theorem d3_264 : decode prog_155_method_6_code 264 = .ok (.iadd, 1) := by decide +kernel
theorem d3_265 : decode prog_155_method_6_code 265 = .ok (.iload_n 3, 1) := by decide +kernel
theorem d3_266 : decode prog_155_method_6_code 266 = .ok (.iastore, 1) := by decide +kernel
theorem d3_267 : decode prog_155_method_6_code 267 = .ok (.aload_n 0, 1) := by decide +kernel
theorem d3_268 : decode prog_155_method_6_code 268 = .ok (.getfield 15, 3) := by decide +kernel
theorem d3_271 : decode prog_155_method_6_code 271 = .ok (.iload 4, 2) := by decide +kernel
theorem d3_273 : decode prog_155_method_6_code 273 = .ok (.dup2, 1) := by decide +kernel
theorem d3_274 : decode prog_155_method_6_code 274 = .ok (.iaload, 1) := by decide +kernel
theorem d3_275 : decode prog_155_method_6_code 275 = .ok (.iconst 1, 1) := by decide +kernel
theorem d3_276 : decode prog_155_method_6_code 276 = .ok (.iadd, 1) := by decide +kernel
theorem d3_277 : decode prog_155_method_6_code 277 = .ok (.iastore, 1) := by decide +kernel
theorem d3_278 : decode prog_155_method_6_code 278 = .ok (.aload_n 0, 1) := by decide +kernel
theorem d3_279 : decode prog_155_method_6_code 279 = .ok (.dup, 1) := by decide +kernel
theorem d3_280 : decode prog_155_method_6_code 280 = .ok (.getfield 26, 3) := by decide +kernel
theorem d3_283 : decode prog_155_method_6_code 283 = .ok (.lconst 1, 1) := by decide +kernel
theorem d3_284 : decode prog_155_method_6_code 284 = .ok (.ladd, 1) := by decide +kernel
theorem d3_285 : decode prog_155_method_6_code 285 = .ok (.putfield 26, 3) := by decide +kernel
theorem sn20 {Z : State} {a0 : Array Value} (hw : ∀ d ∈ tables_1, d.before a0 Z = true) : Jvm.RoadKit.slotOf Z "com/example/quadrille/quadrille/store/SortedTriples" "blocks" "[[I" ≠ Jvm.RoadKit.slotOf Z "com/example/quadrille/quadrille/store/SortedTriples" "size" "J" := slot_ne (Or.inl (ww hw 12 rfl)) (Or.inl (ww hw 53 rfl)) (by decide) (t := (.array (.array .int))) (t' := .long) (by decide) (by decide)
theorem sn21 {Z : State} {a0 : Array Value} (hw : ∀ d ∈ tables_1, d.before a0 Z = true) : Jvm.RoadKit.slotOf Z "com/example/quadrille/quadrille/store/SortedTriples" "counts" "[I" ≠ Jvm.RoadKit.slotOf Z "com/example/quadrille/quadrille/store/SortedTriples" "size" "J" := slot_ne (Or.inl (ww hw 15 rfl)) (Or.inl (ww hw 53 rfl)) (by decide) (t := (.array .int)) (t' := .long) (by decide) (by decide)
theorem sn22 {Z : State} {a0 : Array Value} (hw : ∀ d ∈ tables_1, d.before a0 Z = true) : Jvm.RoadKit.slotOf Z "com/example/quadrille/quadrille/store/SortedTriples" "owned" "[Z" ≠ Jvm.RoadKit.slotOf Z "com/example/quadrille/quadrille/store/SortedTriples" "size" "J" := slot_ne (Or.inl (ww hw 18 rfl)) (Or.inl (ww hw 53 rfl)) (by decide) (t := (.array .boolean)) (t' := .long) (by decide) (by decide)
theorem sn23 {Z : State} {a0 : Array Value} (hw : ∀ d ∈ tables_1, d.before a0 Z = true) : Jvm.RoadKit.slotOf Z "com/example/quadrille/quadrille/store/SortedTriples" "shared" "Z" ≠ Jvm.RoadKit.slotOf Z "com/example/quadrille/quadrille/store/SortedTriples" "size" "J" := slot_ne (Or.inl (ww hw 29 rfl)) (Or.inl (ww hw 53 rfl)) (by decide) (t := .boolean) (t' := .long) (by decide) (by decide)
theorem sn24 {Z : State} {a0 : Array Value} (hw : ∀ d ∈ tables_1, d.before a0 Z = true) : Jvm.RoadKit.slotOf Z "com/example/quadrille/quadrille/store/SortedTriples" "blockCount" "I" ≠ Jvm.RoadKit.slotOf Z "com/example/quadrille/quadrille/store/SortedTriples" "size" "J" := slot_ne (Or.inl (ww hw 31 rfl)) (Or.inl (ww hw 53 rfl)) (by decide) (t := .int) (t' := .long) (by decide) (by decide)
theorem d3_288 : decode prog_155_method_6_code 288 = .ok (.iconst 1, 1) := by decide +kernel
theorem d3_289 : decode prog_155_method_6_code 289 = .ok (.ireturn, 1) := by decide +kernel
def Q3_1 (Z : State) (i0 : Int32) (i1 : Int32) (i2 : Int32) (b0 : Addr) (b1 : Addr) (b2 : Addr) (b3 : Addr) (k4 : ClassId) (k5 : ClassId) (k6 : ClassId) (h0 : Heap) (n0 : Nat) (v : Option Value) (h : Heap) (L : List Loc) : Prop := Fr n0 L ∧ ((∃ (o9 : Addr) (k9 : ClassId), v = some (.int (1 : Int32)) ∧ Keep h0 h [b0, b3, b2, b1] ∧ n0 ≤ o9 ∧ h0.size ≤ o9 ∧ Arv Z h o9 k9 .int (12 : Int32) [(.int i0), (.int i1), (.int i2), (.int (0 : Int32)), (.int (0 : Int32)), (.int (0 : Int32)), (.int (0 : Int32)), (.int (0 : Int32)), (.int (0 : Int32)), (.int (0 : Int32)), (.int (0 : Int32)), (.int (0 : Int32))] (.int (0 : Int32)) ∧ Exa Z h o9 "[I" ∧ Exa Z h b0 "com/example/quadrille/quadrille/store/SortedTriples" ∧ Fld Z h b0 "com/example/quadrille/quadrille/store/SortedTriples" "blocks" "[[I" (.ref b1) ∧ Fld Z h b0 "com/example/quadrille/quadrille/store/SortedTriples" "counts" "[I" (.ref b2) ∧ Fld Z h b0 "com/example/quadrille/quadrille/store/SortedTriples" "owned" "[Z" (.ref b3) ∧ Fld Z h b0 "com/example/quadrille/quadrille/store/SortedTriples" "shared" "Z" (.int (0 : Int32)) ∧ Fld Z h b0 "com/example/quadrille/quadrille/store/SortedTriples" "blockCount" "I" (.int (1 : Int32)) ∧ Fld Z h b0 "com/example/quadrille/quadrille/store/SortedTriples" "size" "J" (.long (1 : Int64)) ∧ Arv Z h b1 k4 (.array .int) (4 : Int32) [(.ref o9), .null, .null, .null] .null ∧ Exa Z h b1 "[[I" ∧ OvrA Z k4 .int "[I" ∧ Arv Z h b2 k5 .int (4 : Int32) [(.int (1 : Int32)), (.int (0 : Int32)), (.int (0 : Int32)), (.int (0 : Int32))] (.int (0 : Int32)) ∧ Exa Z h b2 "[I" ∧ Arv Z h b3 k6 .boolean (4 : Int32) [(.int (1 : Int32)), (.int (0 : Int32)), (.int (0 : Int32)), (.int (0 : Int32))] (.int (0 : Int32)) ∧ Exa Z h b3 "[Z"))
set_option maxRecDepth 65536 in
set_option maxHeartbeats 40000000 in
theorem rm3_1 (l : Launch) (Z : State) (a0 : Array Value) (hw : ∀ d ∈ tables_1, d.before a0 Z = true) (ws : List Jvm.Cond) (i0 : Int32) (i1 : Int32) (i2 : Int32) (b0 : Addr) (b1 : Addr) (b2 : Addr) (b3 : Addr) (k4 : ClassId) (k5 : ClassId) (k6 : ClassId) (h0 : Heap) (n0 : Nat) (O0 : Old Z n0 h0)  (g_b0 : n0 ≤ b0) (g_b1 : n0 ≤ b1) (g_b2 : n0 ≤ b2) (g_b3 : n0 ≤ b3) (ne_b0_b1 : b0 ≠ b1) (ne_b0_b2 : b0 ≠ b2) (ne_b0_b3 : b0 ≠ b3) (ne_b1_b2 : b1 ≠ b2) (ne_b1_b3 : b1 ≠ b3) (ne_b2_b3 : b2 ≠ b3) (f0 : Exa Z h0 b0 "com/example/quadrille/quadrille/store/SortedTriples") (f1 : Fld Z h0 b0 "com/example/quadrille/quadrille/store/SortedTriples" "blocks" "[[I" (.ref b1)) (f2 : Fld Z h0 b0 "com/example/quadrille/quadrille/store/SortedTriples" "counts" "[I" (.ref b2)) (f3 : Fld Z h0 b0 "com/example/quadrille/quadrille/store/SortedTriples" "owned" "[Z" (.ref b3)) (f4 : Fld Z h0 b0 "com/example/quadrille/quadrille/store/SortedTriples" "shared" "Z" (.int (0 : Int32))) (f5 : Fld Z h0 b0 "com/example/quadrille/quadrille/store/SortedTriples" "blockCount" "I" (.int (0 : Int32))) (f6 : Fld Z h0 b0 "com/example/quadrille/quadrille/store/SortedTriples" "size" "J" (.long (0 : Int64))) (f7 : Arv Z h0 b1 k4 (.array .int) (4 : Int32) [.null, .null, .null, .null] .null) (f8 : Exa Z h0 b1 "[[I") (f9 : OvrA Z k4 .int "[I") (f10 : Arv Z h0 b2 k5 .int (4 : Int32) [(.int (0 : Int32)), (.int (0 : Int32)), (.int (0 : Int32)), (.int (0 : Int32))] (.int (0 : Int32))) (f11 : Exa Z h0 b2 "[I") (f12 : Arv Z h0 b3 k6 .boolean (4 : Int32) [(.int (0 : Int32)), (.int (0 : Int32)), (.int (0 : Int32)), (.int (0 : Int32))] (.int (0 : Int32))) (f13 : Exa Z h0 b3 "[Z") :
    MetFree l M6 (head1 (Jvm.Cond.code M6 prog_155_method_6_code 8 (some .boolean) :: ws) ({ frames := 2, cells := 1, slots := 12, locals := 42 } : Room)) (fun a U => a = #[(.ref b0), (.int i0), (.int i1), (.int i2)] ∧ Z.Warmed39 U.vm ∧ U.heap = h0) (fun _ _ _ _ _ => True) (fun _ U o U' => ∃ v L, o = .returned v ∧ Q3_1 Z i0 i1 i2 b0 b1 b2 b3 k4 k5 k6 h0 n0 v U'.heap L ∧ FrameEnd U o U' L ({ frames := 2, cells := 1, slots := 12, locals := 42 } : Room).cells ({ frames := 2, cells := 1, slots := 12, locals := 42 } : Room).slots) := by
 refine MetFree.of_bodySF (plainFor_of_name pn1) hisR ?_
 intro p e s m args below meth c s₁ Bd hml0 hP hK
 obtain ⟨rfl, hZ, hh⟩ := hP
 have hx := Bd.exec
 have hby := Bd.bytes
 have hml : c.maxLocals = 8 := hml0
 have hown : s.vm.findClass "com/example/quadrille/quadrille/store/SortedTriples" = some m.cls := findClass_of_methodNamed Bd.named
 have hnm := (name_of_methodNamed Bd.named Bd.method).1
 have X0 : Stand p l e ({ frames := 2, cells := 1, slots := 12, locals := 42 } : Room) s m #[(.ref b0), (.int i0), (.int i1), (.int i2)] below meth c s₁ [] 0 0 := Stand.of_body Bd
 have e0 : s₁.heap = h0 := by rw [← hh, Bd.state]; rfl
 have N0 := Fr.nil n0
 let S0 : State → Prop := fun t => Steps p.tables e below (s₁.setTop (entryFrame m #[(.ref b0), (.int i0), (.int i1), (.int i2)] 8)) t
 let Ls1 : Array Slot := #[.val (.ref b0), .val (.int i0), .val (.int i1), .val (.int i2), .unset, .unset, .unset, .unset]
 have p0 : ∀ t, St p e below s₁ (mkF m 0 Ls1 []) t → S0 t := fun t k => castTop (ef2 m b0 i0 i1 i2) k
 have p2 : ∀ t, St p e below s₁ (mkF m 1 Ls1 [(.ref b0)]) t → S0 t := fun t k => p0 t (by
   refine XS.aloadN X0.here hx rfl (hb hby d3_0) rfl rfl ?_
   exact k)
 obtain ⟨cqc3, qc3, qc3'⟩ := f0.cell
 obtain ⟨_, _, ⟨Tc3, Lc3, kc3, nc3⟩, -, Xc3, ⟨Lcc3, hQc3, lc3, yc3, zc3⟩, stc3⟩ := X0.privateBack hx (y := M1) hown (mvT hZ (ww hw 24 rfl)) (mvT hZ (ww hw 25 rfl)) (mvT hZ (own_sel (y := M1) (ww hw 1 rfl) (ww hw 26 rfl) (ww hw 25 rfl) (by decide))) (Cond.privateMethod_at (mvP hZ (ww hw 26 rfl) (args := #[]))) (mvT hZ (ww hw 27 rfl)) (by decide) (backOf (W := 0) (rm4_2 l Z a0 hw [] b0 h0 n0 O0  g_b0 f0 f4) hZ (ww hw 27 rfl) (ww hw 2 rfl) (by decide) (by decide)) (g := (mkF m 1 Ls1 [(.ref b0)])) rfl (by rw [hml]; rfl) (Steps.refl _) (a := b0) (by rw [e0]; exact qc3) qc3' (argsL := []) (rest := []) (lenOf pd0 rfl) rfl (by show 2 * 0 + _ ≤ _; exact Nat.le_of_eq rfl) (hb hby d3_1) (fun _ _ => ⟨rfl, e0, (by decide : 0 + 0 ≤ _), (by decide : 0 + 0 ≤ _)⟩)
 dsimp only [Pt.U, Pt.locs, Pt.cells, Pt.slots] at Xc3 lc3 yc3 zc3 stc3 hQc3
 subst lc3 yc3 zc3
 obtain ⟨Nqc3, ec3, hAc3⟩ := hQc3
 have Nc3 := Fr.app N0 Nqc3
 obtain rfl := hAc3
 have p4 : ∀ t, St p e below Tc3 (mkF m 4 Ls1 []) t → S0 t := fun t k => p2 t (stc3.trans k)
 have p5 : ∀ t, St p e below Tc3 (mkF m 5 Ls1 [(.ref b0)]) t → S0 t := fun t k => p4 t (by
   refine XS.aloadN Xc3.here hx rfl (hb hby d3_4) rfl rfl ?_
   exact k)
 obtain ⟨T6, X6, e6, st6⟩ := getF Xc3 hx hZ hown (host := "") (Or.inl (ww hw 30 rfl)) Via.refl ec3 f5 (g := (mkF m 5 Ls1 [(.ref b0)])) rfl rfl (hb hby d3_5)
 have p7 : ∀ t, St p e below T6 (mkF m 8 Ls1 [(.int (0 : Int32))]) t → S0 t := fun t k => p5 t (st6 t k)
 have p8 : ∀ t, St p e below T6 (mkF m 15 Ls1 [(.int (12 : Int32)), (.int (0 : Int32)), (.ref b0)]) t → S0 t := fun t k => p7 t (by
   refine XS.ifNo X6.here hx rfl (hb hby d3_8) rfl ((if0 _ _).trans (teq (by decide : (0 : Int32) = (0 : Int32))).2) ?_
   refine XS.aloadN X6.here hx rfl (hb hby d3_11) rfl rfl ?_
   refine XT.iconstV X6.here hx rfl (0 : Int32) (hb hby d3_12) (by decide) ?_
   refine XT.bipushV X6.here hx rfl (12 : Int32) (hb hby d3_13) (by decide) ?_
   exact k)
 obtain ⟨T9, h9, k9, X9, e9, E9, A9, Ea9, st9⟩ := newPE X6 hx hZ (ww hw 13 rfl) e6 (g := (mkF m 15 Ls1 [(.int (12 : Int32)), (.int (0 : Int32)), (.ref b0)])) rfl (hb hby d3_15) rfl (by decide) (cap := 12) (by decide) (by decide) (by decide) (by decide) (ad := "[I") (by decide)
 obtain ⟨o9, gq9⟩ : ∃ z, z = (h0).size := ⟨_, rfl⟩
 rw [← gq9] at A9 Ea9 st9
 have gb_o9 : n0 ≤ o9 := Nat.le_trans (own_old_le O0) (Nat.le_of_eq gq9.symm)
 have sz_o9 : h0.size ≤ o9 := Nat.le_trans ((Keep.refl h0 [b0, b3, b2, b1])).1 (Nat.le_of_eq gq9.symm)
 have ne_b0_o9 : b0 ≠ o9 := Nat.ne_of_lt (Nat.lt_of_lt_of_le f0.lt (Nat.le_of_eq gq9.symm))
 have ne_b1_o9 : b1 ≠ o9 := Nat.ne_of_lt (Nat.lt_of_lt_of_le f7.lt (Nat.le_of_eq gq9.symm))
 have ne_b2_o9 : b2 ≠ o9 := Nat.ne_of_lt (Nat.lt_of_lt_of_le f10.lt (Nat.le_of_eq gq9.symm))
 have ne_b3_o9 : b3 ≠ o9 := Nat.ne_of_lt (Nat.lt_of_lt_of_le f12.lt (Nat.le_of_eq gq9.symm))
 have E_10 := f0.ext E9
 have F_11 := f1.ext E9
 have F_12 := f2.ext E9
 have F_13 := f3.ext E9
 have F_14 := f4.ext E9
 have F_15 := f5.ext E9
 have F_16 := f6.ext E9
 have V_17 := f7.ext E9
 have E_18 := f8.ext E9
 have V_19 := f10.ext E9
 have E_20 := f11.ext E9
 have V_21 := f12.ext E9
 have E_22 := f13.ext E9
 have O23 := O0.ext E9
 have K24 := (Keep.refl h0 [b0, b3, b2, b1]).ext E9
 have V_25 : Arv Z h9 o9 k9 .int (12 : Int32) [(.int (0 : Int32)), (.int (0 : Int32)), (.int (0 : Int32)), (.int (0 : Int32)), (.int (0 : Int32)), (.int (0 : Int32)), (.int (0 : Int32)), (.int (0 : Int32)), (.int (0 : Int32)), (.int (0 : Int32)), (.int (0 : Int32)), (.int (0 : Int32))] (.int (0 : Int32)) := (Arv.new A9 (by decide)).pad (pad_rep [] (.int (0 : Int32)) 12)
 have E_26 : Exa Z h9 o9 "[I" := Ea9
 have p27 : ∀ t, St p e below T9 (mkF m 17 Ls1 [(.ref o9), (.int (0 : Int32)), (.ref b0)]) t → S0 t := fun t k => p8 t (st9 t k)
 obtain ⟨cqc28, qc28, qc28'⟩ := E_10.cell
 obtain ⟨_, _, ⟨Tc28, Lc28, kc28, nc28⟩, -, Xc28, ⟨Lcc28, hQc28, lc28, yc28, zc28⟩, stc28⟩ := X9.privateBack hx (y := M2) hown (mvT hZ (ww hw 32 rfl)) (mvT hZ (ww hw 33 rfl)) (mvT hZ (own_sel (y := M2) (ww hw 1 rfl) (ww hw 34 rfl) (ww hw 33 rfl) (by decide))) (Cond.privateMethod_at (mvP hZ (ww hw 34 rfl) (args := #[]))) (mvT hZ (ww hw 35 rfl)) (by decide) (backOf (W := 0) (rm5_3 l Z a0 hw [] b0 o9 b1 b2 b3 k9 k4 k5 k6 h9 n0 O23  g_b0 gb_o9 g_b1 g_b2 g_b3 ne_b0_o9 ne_b0_b1 ne_b0_b2 ne_b0_b3 (Ne.symm ne_b1_o9) (Ne.symm ne_b2_o9) (Ne.symm ne_b3_o9) ne_b1_b2 ne_b1_b3 ne_b2_b3 E_10 F_11 F_12 F_13 F_14 F_15 F_16 V_25 E_26 V_17 E_18 f9 V_19 E_20 V_21 E_22) hZ (ww hw 35 rfl) (ww hw 2 rfl) (by decide) (by decide)) (g := (mkF m 17 Ls1 [(.ref o9), (.int (0 : Int32)), (.ref b0)])) rfl (by rw [hml]; rfl) (Steps.refl _) (a := b0) (by rw [e9]; exact qc28) qc28' (argsL := [(.int (0 : Int32)), (.ref o9)]) (rest := []) (lenOf pd1 rfl) rfl (by show 2 * 0 + _ ≤ _; exact Nat.le_of_eq rfl) (hb hby d3_17) (fun _ _ => ⟨rfl, e9, (by decide : 1 + 0 ≤ _), (by decide : 12 + 0 ≤ _)⟩)
 dsimp only [Pt.U, Pt.locs, Pt.cells, Pt.slots] at Xc28 lc28 yc28 zc28 stc28 hQc28
 subst lc28 yc28 zc28
 obtain ⟨Nqc28, hAc28⟩ := hQc28
 have Nc28 := Fr.app Nc3 Nqc28
 obtain ⟨rfl, Kcc28, f_29, f_30, f_31, f_32, f_33, f_34, f_35, f_36, f_37, f_38, f_39, f_40, f_41, f_42⟩ := hAc28
 have V_43 := V_25.keep Kcc28 (ninS (Ne.symm ne_b1_o9) (ninS (Ne.symm ne_b2_o9) (ninS (Ne.symm ne_b3_o9) (ninS (Ne.symm ne_b0_o9) nin0))))
 have E_44 := E_26.keep Kcc28
 have O45 := O23.keep Kcc28 (allS g_b1 (allS g_b2 (allS g_b3 (allS g_b0 all0))))
 have K46 := Keep.trans K24 Kcc28 (allS (Or.inl (List.mem_of_getElem? (i := 3) rfl)) (allS (Or.inl (List.mem_of_getElem? (i := 2) rfl)) (allS (Or.inl (List.mem_of_getElem? (i := 1) rfl)) (allS (Or.inl (List.mem_of_getElem? (i := 0) rfl)) all0))))
 have p47 : ∀ t, St p e below Tc28 (mkF m 20 Ls1 []) t → S0 t := fun t k => p27 t (stc28.trans k)
 have p48 : ∀ t, St p e below Tc28 (mkF m 24 Ls1 [(.int i2), (.int i1), (.int i0), (.ref b0)]) t → S0 t := fun t k => p47 t (by
   refine XS.aloadN Xc28.here hx rfl (hb hby d3_20) rfl rfl ?_
   refine XS.iloadN Xc28.here hx rfl (hb hby d3_21) rfl ?_
   refine XS.iloadN Xc28.here hx rfl (hb hby d3_22) rfl ?_
   refine XS.iloadN Xc28.here hx rfl (hb hby d3_23) rfl ?_
   exact k)
 obtain ⟨cqc49, qc49, qc49'⟩ := f_29.cell
 obtain ⟨_, _, ⟨Tc49, Lc49, kc49, nc49⟩, -, Xc49, ⟨Lcc49, hQc49, lc49, yc49, zc49⟩, stc49⟩ := Xc28.privateBack hx (y := M3) hown (mvT hZ (ww hw 41 rfl)) (mvT hZ (ww hw 42 rfl)) (mvT hZ (own_sel (y := M3) (ww hw 1 rfl) (ww hw 43 rfl) (ww hw 42 rfl) (by decide))) (Cond.privateMethod_at (mvP hZ (ww hw 43 rfl) (args := #[]))) (mvT hZ (ww hw 44 rfl)) (by decide) (backOf (W := 0) (rm6_4 l Z a0 hw [] i0 i1 i2 b0 Tc28.heap n0 O45  g_b0 f_29 f_34) hZ (ww hw 44 rfl) (ww hw 2 rfl) (by decide) (by decide)) (g := (mkF m 24 Ls1 [(.int i2), (.int i1), (.int i0), (.ref b0)])) rfl (by rw [hml]; rfl) (Steps.refl _) (a := b0) qc49 qc49' (argsL := [(.int i0), (.int i1), (.int i2)]) (rest := []) (lenOf pd2 rfl) rfl (by show 2 * 0 + _ ≤ _; exact Nat.le_of_eq rfl) (hb hby d3_24) (fun _ _ => ⟨rfl, rfl, (by decide : 1 + 0 ≤ _), (by decide : 12 + 0 ≤ _)⟩)
 dsimp only [Pt.U, Pt.locs, Pt.cells, Pt.slots] at Xc49 lc49 yc49 zc49 stc49 hQc49
 subst lc49 yc49 zc49
 obtain ⟨Nqc49, ec49, hAc49⟩ := hQc49
 have Nc49 := Fr.app Nc28 Nqc49
 obtain rfl := hAc49
 have p50 : ∀ t, St p e below Tc49 (mkF m 27 Ls1 [(.int (0 : Int32))]) t → S0 t := fun t k => p48 t (stc49.trans k)
 let Ls51 : Array Slot := #[.val (.ref b0), .val (.int i0), .val (.int i1), .val (.int i2), .val (.int (0 : Int32)), .unset, .unset, .unset]
 have p52 : ∀ t, St p e below Tc49 (mkF m 30 Ls51 [(.ref b0)]) t → S0 t := fun t k => p50 t (by
   refine XS.istore Xc49.here hx rfl (hb hby d3_27) rfl (l' := Ls51) rfl ?_
   refine XS.aloadN Xc49.here hx rfl (hb hby d3_29) rfl rfl ?_
   exact k)
 obtain ⟨T53, X53, e53, st53⟩ := getF Xc49 hx hZ hown (host := "") (Or.inl (ww hw 11 rfl)) Via.refl ec49 f_30 (g := (mkF m 30 Ls51 [(.ref b0)])) rfl rfl (hb hby d3_30)
 have p54 : ∀ t, St p e below T53 (mkF m 33 Ls51 [(.ref b1)]) t → S0 t := fun t k => p52 t (st53 t k)
 have p55 : ∀ t, St p e below T53 (mkF m 35 Ls51 [(.int (0 : Int32)), (.ref b1)]) t → S0 t := fun t k => p54 t (by
   refine XS.iload X53.here hx rfl (hb hby d3_33) rfl ?_
   exact k)
 obtain ⟨cl56, Ar56, -, Sz56, -, Hs56, -⟩ := id f_36
 have hin56 : ¬ ((0 : Int32) < 0 ∨ cl56.slots.size ≤ (0 : Int32).toNatClampNeg) := inb_of Sz56 ⟨by decide, by decide⟩
 have hat56 : cl56.slots[(0 : Int32).toNatClampNeg]? = some (.ref o9) := Hs56.at hin56 rfl
 have p57 : ∀ t, St p e below T53 (mkF m 37 Ls51 [(.ref b0), (.ref o9)]) t → S0 t := fun t k => p55 t (by
   refine X53.aaload hx (j := (0 : Int32)) (v := (.ref o9)) (by rw [e53]; exact Ar56.1) (State.isArrayOf_alike hZ.alike Ar56.2.1) rfl Ar56.2.2 hin56 hat56 (g := (mkF m 35 Ls51 [(.int (0 : Int32)), (.ref b1)])) rfl rfl (hb hby d3_35) _ ?_
   refine XS.aloadN X53.here hx rfl (hb hby d3_36) rfl rfl ?_
   exact k)
 obtain ⟨T58, X58, e58, st58⟩ := getF X53 hx hZ hown (host := "") (Or.inl (ww hw 14 rfl)) Via.refl e53 f_31 (g := (mkF m 37 Ls51 [(.ref b0), (.ref o9)])) rfl rfl (hb hby d3_37)
 have p59 : ∀ t, St p e below T58 (mkF m 40 Ls51 [(.ref b2), (.ref o9)]) t → S0 t := fun t k => p57 t (st58 t k)
 have p60 : ∀ t, St p e below T58 (mkF m 42 Ls51 [(.int (0 : Int32)), (.ref b2), (.ref o9)]) t → S0 t := fun t k => p59 t (by
   refine XS.iload X58.here hx rfl (hb hby d3_40) rfl ?_
   exact k)
 obtain ⟨cl61, Ar61, -, Sz61, -, Hs61, -⟩ := id f_39
 have hin61 : ¬ ((0 : Int32) < 0 ∨ cl61.slots.size ≤ (0 : Int32).toNatClampNeg) := inb_of Sz61 ⟨by decide, by decide⟩
 have hat61 : cl61.slots[(0 : Int32).toNatClampNeg]? = some (.int (0 : Int32)) := Hs61.at hin61 rfl
 have p62 : ∀ t, St p e below T58 (mkF m 46 Ls51 [(.int i2), (.int i1), (.int i0), (.int (0 : Int32)), (.ref o9)]) t → S0 t := fun t k => p60 t (by
   refine X58.iaload hx (j := (0 : Int32)) (v := (.int (0 : Int32))) (by rw [e58]; exact Ar61.1) (State.isArrayOf_alike hZ.alike Ar61.2.1) Ar61.2.2 hin61 hat61 (g := (mkF m 42 Ls51 [(.int (0 : Int32)), (.ref b2), (.ref o9)])) rfl rfl (hb hby d3_42) _ ?_
   refine XS.iloadN X58.here hx rfl (hb hby d3_43) rfl ?_
   refine XS.iloadN X58.here hx rfl (hb hby d3_44) rfl ?_
   refine XS.iloadN X58.here hx rfl (hb hby d3_45) rfl ?_
   exact k)
 obtain ⟨_, _, ⟨Tc63, Lc63, kc63, nc63⟩, -, Xc63, ⟨Lcc63, hQc63, lc63, yc63, zc63⟩, stc63⟩ := Jvm.LawKit.callS X58 hx (y := M4) hown (mvT hZ (ww hw 45 rfl)) (mvT hZ (ww hw 46 rfl)) (mvT hZ (ww hw 2 rfl)) (mvT hZ (ww hw 47 rfl)) (by decide) (backOf (W := 0) (rm7_5 l Z a0 hw [] i0 i1 i2 (0 : Int32) (0 : Int32) (0 : Int32) (0 : Int32) (0 : Int32) (0 : Int32) (0 : Int32) (0 : Int32) (0 : Int32) (0 : Int32) (0 : Int32) (0 : Int32) o9 k9 Tc28.heap n0 O45  gb_o9 V_43 E_44) hZ (ww hw 47 rfl) (ww hw 2 rfl) (by decide) (by decide)) (g := (mkF m 46 Ls51 [(.int i2), (.int i1), (.int i0), (.int (0 : Int32)), (.ref o9)])) rfl (by rw [hml]; rfl) (argsL := [(.ref o9), (.int (0 : Int32)), (.int i0), (.int i1), (.int i2)]) (rest := []) (lenOf pd3 rfl) rfl (by show 2 * 0 + _ ≤ _; exact Nat.le_of_eq rfl) (hb hby d3_46) (fun _ _ => ⟨rfl, e58, (by decide : 1 + 0 ≤ _), (by decide : 12 + 0 ≤ _)⟩)
 dsimp only [Pt.U, Pt.locs, Pt.cells, Pt.slots] at Xc63 lc63 yc63 zc63 stc63 hQc63
 subst lc63 yc63 zc63
 obtain ⟨Nqc63, ec63, hAc63⟩ := hQc63
 have Nc63 := Fr.app Nc49 Nqc63
 obtain rfl := hAc63
 have p64 : ∀ t, St p e below Tc63 (mkF m 49 Ls51 [(.int (-1 : Int32))]) t → S0 t := fun t k => p62 t (stc63 t k)
 let Ls65 : Array Slot := #[.val (.ref b0), .val (.int i0), .val (.int i1), .val (.int i2), .val (.int (0 : Int32)), .val (.int (-1 : Int32)), .unset, .unset]
 let Ls66 : Array Slot := #[.val (.ref b0), .val (.int i0), .val (.int i1), .val (.int i2), .val (.int (0 : Int32)), .val (.int (0 : Int32)), .unset, .unset]
 have p67 : ∀ t, St p e below Tc63 (mkF m 66 Ls66 [(.ref b0)]) t → S0 t := fun t k => p64 t (by
   refine XS.istore Xc63.here hx rfl (hb hby d3_49) rfl (l' := Ls65) rfl ?_
   refine XS.iload Xc63.here hx rfl (hb hby d3_51) rfl ?_
   refine XS.ifYes Xc63.here hx rfl (pc0 := 53) (pc' := 58) rfl (hb hby d3_53) rfl ((if0 _ _).trans (tlt (by decide : (-1 : Int32) < (0 : Int32))).1) (by decide) (by decide) ?_
   refine XS.iload Xc63.here hx rfl (hb hby d3_58) rfl ?_
   refine XS.ineg Xc63.here hx rfl (hb hby d3_60) rfl ?_
   show St p e below Tc63 (mkF m 61 Ls65 [(.int (1 : Int32))]) t
   refine XT.iconstV Xc63.here hx rfl (1 : Int32) (hb hby d3_61) (by decide) ?_
   refine XS.isub Xc63.here hx rfl (hb hby d3_62) rfl ?_
   refine XS.istore Xc63.here hx rfl (hb hby d3_63) rfl (l' := Ls66) rfl ?_
   refine XS.aloadN Xc63.here hx rfl (hb hby d3_65) rfl rfl ?_
   exact k)
 obtain ⟨T68, X68, e68, st68⟩ := getF Xc63 hx hZ hown (host := "") (Or.inl (ww hw 14 rfl)) Via.refl ec63 f_31 (g := (mkF m 66 Ls66 [(.ref b0)])) rfl rfl (hb hby d3_66)
 have p69 : ∀ t, St p e below T68 (mkF m 69 Ls66 [(.ref b2)]) t → S0 t := fun t k => p67 t (st68 t k)
 have p70 : ∀ t, St p e below T68 (mkF m 71 Ls66 [(.int (0 : Int32)), (.ref b2)]) t → S0 t := fun t k => p69 t (by
   refine XS.iload X68.here hx rfl (hb hby d3_69) rfl ?_
   exact k)
 obtain ⟨cl71, Ar71, -, Sz71, -, Hs71, -⟩ := id f_39
 have hin71 : ¬ ((0 : Int32) < 0 ∨ cl71.slots.size ≤ (0 : Int32).toNatClampNeg) := inb_of Sz71 ⟨by decide, by decide⟩
 have hat71 : cl71.slots[(0 : Int32).toNatClampNeg]? = some (.int (0 : Int32)) := Hs71.at hin71 rfl
 have p72 : ∀ t, St p e below T68 (mkF m 142 Ls66 [(.ref b0)]) t → S0 t := fun t k => p70 t (by
   refine X68.iaload hx (j := (0 : Int32)) (v := (.int (0 : Int32))) (by rw [e68]; exact Ar71.1) (State.isArrayOf_alike hZ.alike Ar71.2.1) Ar71.2.2 hin71 hat71 (g := (mkF m 71 Ls66 [(.int (0 : Int32)), (.ref b2)])) rfl rfl (hb hby d3_71) _ ?_
   refine XT.sipushV X68.here hx rfl (256 : Int32) (hb hby d3_72) (by decide) ?_
   refine XS.icmpYes X68.here hx rfl (pc0 := 75) (pc' := 141) rfl (hb hby d3_75) rfl (feq (by decide : ¬ ((0 : Int32) = (256 : Int32)))).2 (by decide) (by decide) ?_
   refine XS.aloadN X68.here hx rfl (hb hby d3_141) rfl rfl ?_
   exact k)
 obtain ⟨T73, X73, e73, st73⟩ := getF X68 hx hZ hown (host := "") (Or.inl (ww hw 11 rfl)) Via.refl e68 f_30 (g := (mkF m 142 Ls66 [(.ref b0)])) rfl rfl (hb hby d3_142)
 have p74 : ∀ t, St p e below T73 (mkF m 145 Ls66 [(.ref b1)]) t → S0 t := fun t k => p72 t (st73 t k)
 have p75 : ∀ t, St p e below T73 (mkF m 147 Ls66 [(.int (0 : Int32)), (.ref b1)]) t → S0 t := fun t k => p74 t (by
   refine XS.iload X73.here hx rfl (hb hby d3_145) rfl ?_
   exact k)
 obtain ⟨cl76, Ar76, -, Sz76, -, Hs76, -⟩ := id f_36
 have hin76 : ¬ ((0 : Int32) < 0 ∨ cl76.slots.size ≤ (0 : Int32).toNatClampNeg) := inb_of Sz76 ⟨by decide, by decide⟩
 have hat76 : cl76.slots[(0 : Int32).toNatClampNeg]? = some (.ref o9) := Hs76.at hin76 rfl
 let Ls77 : Array Slot := #[.val (.ref b0), .val (.int i0), .val (.int i1), .val (.int i2), .val (.int (0 : Int32)), .val (.int (0 : Int32)), .val (.ref o9), .unset]
 have p78 : ∀ t, St p e below T73 (mkF m 151 Ls77 [(.ref b0)]) t → S0 t := fun t k => p75 t (by
   refine X73.aaload hx (j := (0 : Int32)) (v := (.ref o9)) (by rw [e73]; exact Ar76.1) (State.isArrayOf_alike hZ.alike Ar76.2.1) rfl Ar76.2.2 hin76 hat76 (g := (mkF m 147 Ls66 [(.int (0 : Int32)), (.ref b1)])) rfl rfl (hb hby d3_147) _ ?_
   refine XS.astore X73.here hx rfl (hb hby d3_148) rfl rfl (l' := Ls77) rfl ?_
   refine XS.aloadN X73.here hx rfl (hb hby d3_150) rfl rfl ?_
   exact k)
 obtain ⟨T79, X79, e79, st79⟩ := getF X73 hx hZ hown (host := "") (Or.inl (ww hw 14 rfl)) Via.refl e73 f_31 (g := (mkF m 151 Ls77 [(.ref b0)])) rfl rfl (hb hby d3_151)
 have p80 : ∀ t, St p e below T79 (mkF m 154 Ls77 [(.ref b2)]) t → S0 t := fun t k => p78 t (st79 t k)
 have p81 : ∀ t, St p e below T79 (mkF m 156 Ls77 [(.int (0 : Int32)), (.ref b2)]) t → S0 t := fun t k => p80 t (by
   refine XS.iload X79.here hx rfl (hb hby d3_154) rfl ?_
   exact k)
 obtain ⟨cl82, Ar82, -, Sz82, -, Hs82, -⟩ := id f_39
 have hin82 : ¬ ((0 : Int32) < 0 ∨ cl82.slots.size ≤ (0 : Int32).toNatClampNeg) := inb_of Sz82 ⟨by decide, by decide⟩
 have hat82 : cl82.slots[(0 : Int32).toNatClampNeg]? = some (.int (0 : Int32)) := Hs82.at hin82 rfl
 let Ls83 : Array Slot := #[.val (.ref b0), .val (.int i0), .val (.int i1), .val (.int i2), .val (.int (0 : Int32)), .val (.int (0 : Int32)), .val (.ref o9), .val (.int (0 : Int32))]
 have p84 : ∀ t, St p e below T79 (mkF m 165 Ls83 [(.ref o9), (.int (0 : Int32))]) t → S0 t := fun t k => p81 t (by
   refine X79.iaload hx (j := (0 : Int32)) (v := (.int (0 : Int32))) (by rw [e79]; exact Ar82.1) (State.isArrayOf_alike hZ.alike Ar82.2.1) Ar82.2.2 hin82 hat82 (g := (mkF m 156 Ls77 [(.int (0 : Int32)), (.ref b2)])) rfl rfl (hb hby d3_156) _ ?_
   refine XS.istore X79.here hx rfl (hb hby d3_157) rfl (l' := Ls83) rfl ?_
   refine XS.iload X79.here hx rfl (hb hby d3_159) rfl ?_
   refine XT.iconstV X79.here hx rfl (3 : Int32) (hb hby d3_161) (by decide) ?_
   refine XS.imul X79.here hx rfl (hb hby d3_162) rfl ?_
   show St p e below T79 (mkF m 163 Ls83 [(.int (0 : Int32))]) t
   refine XS.aload X79.here hx rfl (hb hby d3_163) rfl rfl ?_
   exact k)
 obtain ⟨cl85, Ar85, -, Sz85, Nn85, -, -⟩ := id V_43
 have Ln85 : cl85.slots.size.toInt32 = (12 : Int32) := len_of Sz85 Nn85
 have p86 : ∀ t, St p e below T79 (mkF m 166 Ls83 [(.int (12 : Int32)), (.int (0 : Int32))]) t → S0 t := fun t k => p84 t (X79.arraylength hx (by rw [e79]; exact Ar85.1) (State.isArrayOf_alike hZ.alike Ar85.2.1) (g := (mkF m 165 Ls83 [(.ref o9), (.int (0 : Int32))])) rfl rfl (hb hby d3_165) t (by rw [Ln85]; exact k))
 have p87 : ∀ t, St p e below T79 (mkF m 210 Ls83 [(.int (0 : Int32)), (.ref b0)]) t → S0 t := fun t k => p86 t (by
   refine XS.icmpYes X79.here hx rfl (pc0 := 166) (pc' := 207) rfl (hb hby d3_166) rfl (feq (by decide : ¬ ((0 : Int32) = (12 : Int32)))).2 (by decide) (by decide) ?_
   refine XS.aloadN X79.here hx rfl (hb hby d3_207) rfl rfl ?_
   refine XS.iload X79.here hx rfl (hb hby d3_208) rfl ?_
   exact k)
 obtain ⟨cqc88, qc88, qc88'⟩ := f_29.cell
 obtain ⟨_, _, ⟨Tc88, Lc88, kc88, nc88⟩, -, Xc88, ⟨Lcc88, hQc88, lc88, yc88, zc88⟩, stc88⟩ := X79.privateBack hx (y := M5) hown (mvT hZ (ww hw 48 rfl)) (mvT hZ (ww hw 49 rfl)) (mvT hZ (own_sel (y := M5) (ww hw 1 rfl) (ww hw 50 rfl) (ww hw 49 rfl) (by decide))) (Cond.privateMethod_at (mvP hZ (ww hw 50 rfl) (args := #[]))) (mvT hZ (ww hw 51 rfl)) (by decide) (backOf (W := 0) (rm8_6 l Z a0 hw [] b0 b1 b3 o9 k4 k6 Tc28.heap n0 O45  g_b0 g_b1 g_b3 gb_o9 ne_b0_b1 ne_b0_b3 ne_b0_o9 ne_b1_b3 ne_b1_o9 ne_b3_o9 f_29 f_30 f_32 f_36 f_37 f_41 f_42 E_44) hZ (ww hw 51 rfl) (ww hw 2 rfl) (by decide) (by decide)) (g := (mkF m 210 Ls83 [(.int (0 : Int32)), (.ref b0)])) rfl (by rw [hml]; rfl) (Steps.refl _) (a := b0) (by rw [e79]; exact qc88) qc88' (argsL := [(.int (0 : Int32))]) (rest := []) (lenOf pd4 rfl) rfl (by show 2 * 0 + _ ≤ _; exact Nat.le_of_eq rfl) (hb hby d3_210) (fun _ _ => ⟨rfl, e79, (by decide : 1 + 0 ≤ _), (by decide : 12 + 0 ≤ _)⟩)
 dsimp only [Pt.U, Pt.locs, Pt.cells, Pt.slots] at Xc88 lc88 yc88 zc88 stc88 hQc88
 subst lc88 yc88 zc88
 obtain ⟨Nqc88, ec88, hAc88⟩ := hQc88
 have Nc88 := Fr.app Nc63 Nqc88
 obtain rfl := hAc88
 have p89 : ∀ t, St p e below Tc88 (mkF m 213 Ls83 [(.ref o9)]) t → S0 t := fun t k => p87 t (stc88.trans k)
 have p90 : ∀ t, St p e below Tc88 (mkF m 236 Ls83 [(.int (0 : Int32)), (.int (3 : Int32)), (.ref o9), (.int (0 : Int32)), (.ref o9)]) t → S0 t := fun t k => p89 t (by
   refine XS.astore Xc88.here hx rfl (hb hby d3_213) rfl rfl (l' := Ls83) rfl ?_
   refine XS.aload Xc88.here hx rfl (hb hby d3_215) rfl rfl ?_
   refine XS.iload Xc88.here hx rfl (hb hby d3_217) rfl ?_
   refine XT.iconstV Xc88.here hx rfl (3 : Int32) (hb hby d3_219) (by decide) ?_
   refine XS.imul Xc88.here hx rfl (hb hby d3_220) rfl ?_
   show St p e below Tc88 (mkF m 221 Ls83 [(.int (0 : Int32)), (.ref o9)]) t
   refine XS.aload Xc88.here hx rfl (hb hby d3_221) rfl rfl ?_
   refine XS.iload Xc88.here hx rfl (hb hby d3_223) rfl ?_
   refine XT.iconstV Xc88.here hx rfl (1 : Int32) (hb hby d3_225) (by decide) ?_
   refine XS.iadd Xc88.here hx rfl (hb hby d3_226) rfl ?_
   refine XT.iconstV Xc88.here hx rfl (3 : Int32) (hb hby d3_227) (by decide) ?_
   refine XS.imul Xc88.here hx rfl (hb hby d3_228) rfl ?_
   show St p e below Tc88 (mkF m 229 Ls83 [(.int (3 : Int32)), (.ref o9), (.int (0 : Int32)), (.ref o9)]) t
   refine XS.iload Xc88.here hx rfl (hb hby d3_229) rfl ?_
   refine XS.iload Xc88.here hx rfl (hb hby d3_231) rfl ?_
   refine XS.isub Xc88.here hx rfl (hb hby d3_233) rfl ?_
   refine XT.iconstV Xc88.here hx rfl (3 : Int32) (hb hby d3_234) (by decide) ?_
   refine XS.imul Xc88.here hx rfl (hb hby d3_235) rfl ?_
   exact k)
 obtain ⟨T91, h91, Lz91, X91, e91, N91, Kz91, Vz91, st91⟩ := cpA Xc88 hx hZ hown (ww hw 36 rfl) (ww hw 39 rfl) (ww hw 37 rfl) (ww hw 38 rfl) ec88 V_43 V_43 (Or.inl ⟨rfl, rfl⟩) (sp := (0 : Int32)) (dp := (3 : Int32)) (nn := (0 : Int32)) (by decide) (by decide) (by decide) (by decide) (by decide) (us := []) rfl (Nat.le_of_ble_eq_true rfl) Nc88 gb_o9 (g := (mkF m 236 Ls83 [(.int (0 : Int32)), (.int (3 : Int32)), (.ref o9), (.int (0 : Int32)), (.ref o9)])) rfl (by rw [hml]; rfl) rfl (hb hby d3_236) (by decide) (W := 0) (by show 2 * 0 + _ ≤ _; exact Nat.le_of_eq rfl) (by decide)
 have E_92 := E_44.keep Kz91
 have E_93 := f_29.keep Kz91
 have F_94 := f_30.keep Kz91 (ninS ne_b0_o9 nin0)
 have F_95 := f_31.keep Kz91 (ninS ne_b0_o9 nin0)
 have F_96 := f_32.keep Kz91 (ninS ne_b0_o9 nin0)
 have F_97 := f_33.keep Kz91 (ninS ne_b0_o9 nin0)
 have F_98 := f_34.keep Kz91 (ninS ne_b0_o9 nin0)
 have F_99 := f_35.keep Kz91 (ninS ne_b0_o9 nin0)
 have V_100 := f_36.keep Kz91 (ninS ne_b1_o9 nin0)
 have E_101 := f_37.keep Kz91
 have V_102 := f_39.keep Kz91 (ninS ne_b2_o9 nin0)
 have E_103 := f_40.keep Kz91
 have V_104 := f_41.keep Kz91 (ninS ne_b3_o9 nin0)
 have E_105 := f_42.keep Kz91
 have V_106 : Arv Z h91 o9 k9 .int (12 : Int32) [(.int (0 : Int32)), (.int (0 : Int32)), (.int (0 : Int32)), (.int (0 : Int32)), (.int (0 : Int32)), (.int (0 : Int32)), (.int (0 : Int32)), (.int (0 : Int32)), (.int (0 : Int32)), (.int (0 : Int32)), (.int (0 : Int32)), (.int (0 : Int32))] (.int (0 : Int32)) := Vz91
 have O107 := O45.keep Kz91 (allS gb_o9 all0)
 have K108 := Keep.trans K46 Kz91 (allS (Or.inr sz_o9) all0)
 have p109 : ∀ t, St p e below T91 (mkF m 239 Ls83 []) t → S0 t := fun t k => p90 t (st91 t k)
 have p110 : ∀ t, St p e below T91 (mkF m 246 Ls83 [(.int i0), (.int (0 : Int32)), (.ref o9)]) t → S0 t := fun t k => p109 t (by
   refine XS.aload X91.here hx rfl (hb hby d3_239) rfl rfl ?_
   refine XS.iload X91.here hx rfl (hb hby d3_241) rfl ?_
   refine XT.iconstV X91.here hx rfl (3 : Int32) (hb hby d3_243) (by decide) ?_
   refine XS.imul X91.here hx rfl (hb hby d3_244) rfl ?_
   refine XS.iloadN X91.here hx rfl (hb hby d3_245) rfl ?_
   exact k)
 obtain ⟨cl111, Ar111, q111, Sz111, Nn111, Hs111, Gf111⟩ := id V_106
 have hin111 : ¬ ((0 : Int32) < 0 ∨ cl111.slots.size ≤ (0 : Int32).toNatClampNeg) := inb_of Sz111 ⟨by decide, by decide⟩
 obtain ⟨T111, h111, X111, e111, W111, st111⟩ := stI X91 hx hZ e91 Ar111 (j := (0 : Int32)) hin111 (g := (mkF m 246 Ls83 [(.int i0), (.int (0 : Int32)), (.ref o9)])) rfl rfl (hb hby d3_246)
 have E_112 := E_92.wr W111
 have E_113 := E_93.wr W111
 have F_114 := F_94.other W111 (Or.inl ne_b0_o9)
 have F_115 := F_95.other W111 (Or.inl ne_b0_o9)
 have F_116 := F_96.other W111 (Or.inl ne_b0_o9)
 have F_117 := F_97.other W111 (Or.inl ne_b0_o9)
 have F_118 := F_98.other W111 (Or.inl ne_b0_o9)
 have F_119 := F_99.other W111 (Or.inl ne_b0_o9)
 have V_120 := V_100.other W111 ne_b1_o9
 have E_121 := E_101.wr W111
 have V_122 := V_102.other W111 ne_b2_o9
 have E_123 := E_103.wr W111
 have V_124 := V_104.other W111 ne_b3_o9
 have E_125 := E_105.wr W111
 have O126 := O107.wr W111 gb_o9
 have K127 := K108.wr W111 (Or.inr sz_o9)
 have V_128 : Arv Z h111 o9 k9 .int (12 : Int32) [(.int i0), (.int (0 : Int32)), (.int (0 : Int32)), (.int (0 : Int32)), (.int (0 : Int32)), (.int (0 : Int32)), (.int (0 : Int32)), (.int (0 : Int32)), (.int (0 : Int32)), (.int (0 : Int32)), (.int (0 : Int32)), (.int (0 : Int32))] (.int (0 : Int32)) := Arv.set Ar111 q111 Sz111 Nn111 Hs111 Gf111 rfl W111 0 rfl (Nat.le_of_ble_eq_true rfl)
 have N129 := Fr.snoc X111 N91 gb_o9
 have p130 : ∀ t, St p e below T111 (mkF m 247 Ls83 []) t → S0 t := fun t k => p110 t (st111 t k)
 have p131 : ∀ t, St p e below T111 (mkF m 256 Ls83 [(.int i1), (.int (1 : Int32)), (.ref o9)]) t → S0 t := fun t k => p130 t (by
   refine XS.aload X111.here hx rfl (hb hby d3_247) rfl rfl ?_
   refine XS.iload X111.here hx rfl (hb hby d3_249) rfl ?_
   refine XT.iconstV X111.here hx rfl (3 : Int32) (hb hby d3_251) (by decide) ?_
   refine XS.imul X111.here hx rfl (hb hby d3_252) rfl ?_
   refine XT.iconstV X111.here hx rfl (1 : Int32) (hb hby d3_253) (by decide) ?_
   show St p e below T111 (mkF m 254 Ls83 [(.int (1 : Int32)), (.int (0 : Int32)), (.ref o9)]) t
   refine XS.iadd X111.here hx rfl (hb hby d3_254) rfl ?_
   refine XS.iloadN X111.here hx rfl (hb hby d3_255) rfl ?_
   exact k)
 obtain ⟨cl132, Ar132, q132, Sz132, Nn132, Hs132, Gf132⟩ := id V_128
 have hin132 : ¬ ((1 : Int32) < 0 ∨ cl132.slots.size ≤ (1 : Int32).toNatClampNeg) := inb_of Sz132 ⟨by decide, by decide⟩
 obtain ⟨T132, h132, X132, e132, W132, st132⟩ := stI X111 hx hZ e111 Ar132 (j := (1 : Int32)) hin132 (g := (mkF m 256 Ls83 [(.int i1), (.int (1 : Int32)), (.ref o9)])) rfl rfl (hb hby d3_256)
 have E_133 := E_112.wr W132
 have E_134 := E_113.wr W132
 have F_135 := F_114.other W132 (Or.inl ne_b0_o9)
 have F_136 := F_115.other W132 (Or.inl ne_b0_o9)
 have F_137 := F_116.other W132 (Or.inl ne_b0_o9)
 have F_138 := F_117.other W132 (Or.inl ne_b0_o9)
 have F_139 := F_118.other W132 (Or.inl ne_b0_o9)
 have F_140 := F_119.other W132 (Or.inl ne_b0_o9)
 have V_141 := V_120.other W132 ne_b1_o9
 have E_142 := E_121.wr W132
 have V_143 := V_122.other W132 ne_b2_o9
 have E_144 := E_123.wr W132
 have V_145 := V_124.other W132 ne_b3_o9
 have E_146 := E_125.wr W132
 have O147 := O126.wr W132 gb_o9
 have K148 := K127.wr W132 (Or.inr sz_o9)
 have V_149 : Arv Z h132 o9 k9 .int (12 : Int32) [(.int i0), (.int i1), (.int (0 : Int32)), (.int (0 : Int32)), (.int (0 : Int32)), (.int (0 : Int32)), (.int (0 : Int32)), (.int (0 : Int32)), (.int (0 : Int32)), (.int (0 : Int32)), (.int (0 : Int32)), (.int (0 : Int32))] (.int (0 : Int32)) := Arv.set Ar132 q132 Sz132 Nn132 Hs132 Gf132 rfl W132 1 rfl (Nat.le_of_ble_eq_true rfl)
 have N150 := Fr.snoc X132 N129 gb_o9
 have p151 : ∀ t, St p e below T132 (mkF m 257 Ls83 []) t → S0 t := fun t k => p131 t (st132 t k)
 have p152 : ∀ t, St p e below T132 (mkF m 266 Ls83 [(.int i2), (.int (2 : Int32)), (.ref o9)]) t → S0 t := fun t k => p151 t (by
   refine XS.aload X132.here hx rfl (hb hby d3_257) rfl rfl ?_
   refine XS.iload X132.here hx rfl (hb hby d3_259) rfl ?_
   refine XT.iconstV X132.here hx rfl (3 : Int32) (hb hby d3_261) (by decide) ?_
   refine XS.imul X132.here hx rfl (hb hby d3_262) rfl ?_
   refine XT.iconstV X132.here hx rfl (2 : Int32) (hb hby d3_263) (by decide) ?_
   show St p e below T132 (mkF m 264 Ls83 [(.int (2 : Int32)), (.int (0 : Int32)), (.ref o9)]) t
   refine XS.iadd X132.here hx rfl (hb hby d3_264) rfl ?_
   refine XS.iloadN X132.here hx rfl (hb hby d3_265) rfl ?_
   exact k)
 obtain ⟨cl153, Ar153, q153, Sz153, Nn153, Hs153, Gf153⟩ := id V_149
 have hin153 : ¬ ((2 : Int32) < 0 ∨ cl153.slots.size ≤ (2 : Int32).toNatClampNeg) := inb_of Sz153 ⟨by decide, by decide⟩
 obtain ⟨T153, h153, X153, e153, W153, st153⟩ := stI X132 hx hZ e132 Ar153 (j := (2 : Int32)) hin153 (g := (mkF m 266 Ls83 [(.int i2), (.int (2 : Int32)), (.ref o9)])) rfl rfl (hb hby d3_266)
 have E_154 := E_133.wr W153
 have E_155 := E_134.wr W153
 have F_156 := F_135.other W153 (Or.inl ne_b0_o9)
 have F_157 := F_136.other W153 (Or.inl ne_b0_o9)
 have F_158 := F_137.other W153 (Or.inl ne_b0_o9)
 have F_159 := F_138.other W153 (Or.inl ne_b0_o9)
 have F_160 := F_139.other W153 (Or.inl ne_b0_o9)
 have F_161 := F_140.other W153 (Or.inl ne_b0_o9)
 have V_162 := V_141.other W153 ne_b1_o9
 have E_163 := E_142.wr W153
 have V_164 := V_143.other W153 ne_b2_o9
 have E_165 := E_144.wr W153
 have V_166 := V_145.other W153 ne_b3_o9
 have E_167 := E_146.wr W153
 have O168 := O147.wr W153 gb_o9
 have K169 := K148.wr W153 (Or.inr sz_o9)
 have V_170 : Arv Z h153 o9 k9 .int (12 : Int32) [(.int i0), (.int i1), (.int i2), (.int (0 : Int32)), (.int (0 : Int32)), (.int (0 : Int32)), (.int (0 : Int32)), (.int (0 : Int32)), (.int (0 : Int32)), (.int (0 : Int32)), (.int (0 : Int32)), (.int (0 : Int32))] (.int (0 : Int32)) := Arv.set Ar153 q153 Sz153 Nn153 Hs153 Gf153 rfl W153 2 rfl (Nat.le_of_ble_eq_true rfl)
 have N171 := Fr.snoc X153 N150 gb_o9
 have p172 : ∀ t, St p e below T153 (mkF m 267 Ls83 []) t → S0 t := fun t k => p152 t (st153 t k)
 have p173 : ∀ t, St p e below T153 (mkF m 268 Ls83 [(.ref b0)]) t → S0 t := fun t k => p172 t (by
   refine XS.aloadN X153.here hx rfl (hb hby d3_267) rfl rfl ?_
   exact k)
 obtain ⟨T174, X174, e174, st174⟩ := getF X153 hx hZ hown (host := "") (Or.inl (ww hw 14 rfl)) Via.refl e153 F_157 (g := (mkF m 268 Ls83 [(.ref b0)])) rfl rfl (hb hby d3_268)
 have p175 : ∀ t, St p e below T174 (mkF m 271 Ls83 [(.ref b2)]) t → S0 t := fun t k => p173 t (st174 t k)
 have p176 : ∀ t, St p e below T174 (mkF m 274 Ls83 [(.int (0 : Int32)), (.ref b2), (.int (0 : Int32)), (.ref b2)]) t → S0 t := fun t k => p175 t (by
   refine XS.iload X174.here hx rfl (hb hby d3_271) rfl ?_
   show St p e below T174 (mkF m 273 Ls83 [(.int (0 : Int32)), (.ref b2)]) t
   jvm_step X174.here [X174.here.top, hx, (hb hby d3_273), Value.category]
   exact k)
 obtain ⟨cl177, Ar177, -, Sz177, -, Hs177, -⟩ := id V_164
 have hin177 : ¬ ((0 : Int32) < 0 ∨ cl177.slots.size ≤ (0 : Int32).toNatClampNeg) := inb_of Sz177 ⟨by decide, by decide⟩
 have hat177 : cl177.slots[(0 : Int32).toNatClampNeg]? = some (.int (0 : Int32)) := Hs177.at hin177 rfl
 have p178 : ∀ t, St p e below T174 (mkF m 277 Ls83 [(.int (1 : Int32)), (.int (0 : Int32)), (.ref b2)]) t → S0 t := fun t k => p176 t (by
   refine X174.iaload hx (j := (0 : Int32)) (v := (.int (0 : Int32))) (by rw [e174]; exact Ar177.1) (State.isArrayOf_alike hZ.alike Ar177.2.1) Ar177.2.2 hin177 hat177 (g := (mkF m 274 Ls83 [(.int (0 : Int32)), (.ref b2), (.int (0 : Int32)), (.ref b2)])) rfl rfl (hb hby d3_274) _ ?_
   refine XT.iconstV X174.here hx rfl (1 : Int32) (hb hby d3_275) (by decide) ?_
   refine XS.iadd X174.here hx rfl (hb hby d3_276) rfl ?_
   exact k)
 obtain ⟨cl179, Ar179, q179, Sz179, Nn179, Hs179, Gf179⟩ := id V_164
 have hin179 : ¬ ((0 : Int32) < 0 ∨ cl179.slots.size ≤ (0 : Int32).toNatClampNeg) := inb_of Sz179 ⟨by decide, by decide⟩
 obtain ⟨T179, h179, X179, e179, W179, st179⟩ := stI X174 hx hZ e174 Ar179 (j := (0 : Int32)) hin179 (g := (mkF m 277 Ls83 [(.int (1 : Int32)), (.int (0 : Int32)), (.ref b2)])) rfl rfl (hb hby d3_277)
 have V_180 := V_170.other W179 (Ne.symm ne_b2_o9)
 have E_181 := E_154.wr W179
 have E_182 := E_155.wr W179
 have F_183 := F_156.other W179 (Or.inl ne_b0_b2)
 have F_184 := F_157.other W179 (Or.inl ne_b0_b2)
 have F_185 := F_158.other W179 (Or.inl ne_b0_b2)
 have F_186 := F_159.other W179 (Or.inl ne_b0_b2)
 have F_187 := F_160.other W179 (Or.inl ne_b0_b2)
 have F_188 := F_161.other W179 (Or.inl ne_b0_b2)
 have V_189 := V_162.other W179 ne_b1_b2
 have E_190 := E_163.wr W179
 have E_191 := E_165.wr W179
 have V_192 := V_166.other W179 (Ne.symm ne_b2_b3)
 have E_193 := E_167.wr W179
 have O194 := O168.wr W179 g_b2
 have K195 := K169.wr W179 (Or.inl (List.mem_of_getElem? (i := 2) rfl))
 have V_196 : Arv Z h179 b2 k5 .int (4 : Int32) [(.int (1 : Int32)), (.int (0 : Int32)), (.int (0 : Int32)), (.int (0 : Int32))] (.int (0 : Int32)) := Arv.set Ar179 q179 Sz179 Nn179 Hs179 Gf179 rfl W179 0 rfl (Nat.le_of_ble_eq_true rfl)
 have N197 := Fr.snoc X179 N171 g_b2
 have p198 : ∀ t, St p e below T179 (mkF m 278 Ls83 []) t → S0 t := fun t k => p178 t (st179 t k)
 have p199 : ∀ t, St p e below T179 (mkF m 280 Ls83 [(.ref b0), (.ref b0)]) t → S0 t := fun t k => p198 t (by
   refine XS.aloadN X179.here hx rfl (hb hby d3_278) rfl rfl ?_
   refine XS.dup X179.here hx rfl (hb hby d3_279) rfl rfl ?_
   exact k)
 obtain ⟨T200, X200, e200, st200⟩ := getF X179 hx hZ hown (host := "") (Or.inl (ww hw 52 rfl)) Via.refl e179 F_188 (g := (mkF m 280 Ls83 [(.ref b0), (.ref b0)])) rfl rfl (hb hby d3_280)
 have p201 : ∀ t, St p e below T200 (mkF m 283 Ls83 [(.long (0 : Int64)), (.ref b0)]) t → S0 t := fun t k => p199 t (st200 t k)
 have p202 : ∀ t, St p e below T200 (mkF m 285 Ls83 [(.long (1 : Int64)), (.ref b0)]) t → S0 t := fun t k => p201 t (by
   refine XT.lconstV X200.here hx rfl (1 : Int64) (hb hby d3_283) (by decide) ?_
   refine XS.ladd X200.here hx rfl (hb hby d3_284) rfl ?_
   exact k)
 obtain ⟨T203, h203, X203, e203, W203, st203⟩ := putF X200 hx hZ hown (host := "") (Or.inl (ww hw 52 rfl)) Via.refl e200 F_188 E_182 (Or.inl (ww hw 53 rfl)) (ww hw 1 rfl) (ty := .long) (by decide) rfl rfl (g := (mkF m 285 Ls83 [(.long (1 : Int64)), (.ref b0)])) rfl rfl (hb hby d3_285)
 have V_204 := V_180.other W203 (Ne.symm ne_b0_o9)
 have E_205 := E_181.wr W203
 have E_206 := E_182.wr W203
 have F_207 := F_183.other W203 (Or.inr (sn20 hw))
 have F_208 := F_184.other W203 (Or.inr (sn21 hw))
 have F_209 := F_185.other W203 (Or.inr (sn22 hw))
 have F_210 := F_186.other W203 (Or.inr (sn23 hw))
 have F_211 := F_187.other W203 (Or.inr (sn24 hw))
 have V_212 := V_189.other W203 (Ne.symm ne_b0_b1)
 have E_213 := E_190.wr W203
 have V_214 := V_196.other W203 (Ne.symm ne_b0_b2)
 have E_215 := E_191.wr W203
 have V_216 := V_192.other W203 (Ne.symm ne_b0_b3)
 have E_217 := E_193.wr W203
 have O218 := O194.wr W203 g_b0
 have K219 := K195.wr W203 (Or.inl (List.mem_of_getElem? (i := 0) rfl))
 have F_220 : Fld Z h203 b0 "com/example/quadrille/quadrille/store/SortedTriples" "size" "J" (.long (1 : Int64)) := F_188.same W203
 have N221 := Fr.snoc X203 N197 g_b0
 have p222 : ∀ t, St p e below T203 (mkF m 288 Ls83 []) t → S0 t := fun t k => p202 t (st203 t k)
 have p223 : ∀ t, St p e below T203 (mkF m 289 Ls83 [(.int (1 : Int32))]) t → S0 t := fun t k => p222 t (by
   refine XT.iconstV X203.here hx rfl (1 : Int32) (hb hby d3_288) (by decide) ?_
   exact k)
 obtain ⟨fs, hr, hrun, hended, hW, hsame⟩ := X203.leave (v := some (.int (1 : Int32))) (fun h => by rw [Bd.returns] at h; cases h)
 refine ⟨_, _, p223 _ ?_, hrun, hended, _, _, rfl, ?_, ⟨_, rfl⟩, hW, hsame.mono (by decide) (by decide)⟩
 · exact retOut X203 hx Bd.returns rfl (Or.inl ⟨rfl, by simp, _, rfl⟩) (hb hby d3_289) hr
 · show Q3_1 Z i0 i1 i2 b0 b1 b2 b3 k4 k5 k6 h0 n0 _ T203.heap _
   rw [e203]
   exact ⟨N221, ⟨o9, k9, rfl, K219, gb_o9, sz_o9, V_204, E_205, E_206, F_207, F_208, F_209, F_210, F_211, F_220, V_212, E_213, f_38, V_214, E_215, V_216, E_217⟩⟩
theorem pd5 : parseMethodDescriptor "(III)Z" = some ⟨[.int, .int, .int], some .boolean⟩ := by decide +kernel
theorem d7_13 : decode prog_155_method_11_code 13 = .ok (.iload 5, 2) := by decide +kernel
theorem d7_15 : decode prog_155_method_11_code 15 = .ok (.iload 6, 2) := by decide +kernel
theorem d7_17 : decode prog_155_method_11_code 17 = .ok (.iadd, 1) := by decide +kernel
theorem d7_18 : decode prog_155_method_11_code 18 = .ok (.iconst 1, 1) := by decide +kernel
theorem d7_19 : decode prog_155_method_11_code 19 = .ok (.iushr, 1) := by decide +kernel
theorem d7_20 : decode prog_155_method_11_code 20 = .ok (.istore 7, 2) := by decide +kernel
theorem d7_22 : decode prog_155_method_11_code 22 = .ok (.aload_n 0, 1) := by decide +kernel
theorem d7_23 : decode prog_155_method_11_code 23 = .ok (.iload 7, 2) := by decide +kernel
theorem d7_25 : decode prog_155_method_11_code 25 = .ok (.iconst 3, 1) := by decide +kernel
theorem d7_26 : decode prog_155_method_11_code 26 = .ok (.imul, 1) := by decide +kernel
theorem d7_27 : decode prog_155_method_11_code 27 = .ok (.iconst 3, 1) := by decide +kernel
theorem d7_28 : decode prog_155_method_11_code 28 = .ok (.iload_n 2, 1) := by decide +kernel
theorem d7_29 : decode prog_155_method_11_code 29 = .ok (.iload_n 3, 1) := by decide +kernel
theorem d7_30 : decode prog_155_method_11_code 30 = .ok (.iload 4, 2) := by decide +kernel
theorem ef8 (m : MethodId) (x0 : Addr) (x1 : Int32) (x2 : Int32) (x3 : Int32) (x4 : Int32) (x5 : Int32) : entryFrame m #[(.ref x0), (.int x1), (.int x2), (.int x3), (.int x4), (.int x5)] 7 = mkF m 0 #[.val (.ref x0), .val (.int x1), .val (.int x2), .val (.int x3), .val (.int x4), .val (.int x5), .unset] [] := by first | (simp [entryFrame, mkF, argsToLocals, Value.category]; done) | rfl
theorem d9_0 : decode prog_155_method_13_code 0 = .ok (.iconst 0, 1) := by decide +kernel
theorem d9_1 : decode prog_155_method_13_code 1 = .ok (.istore 6, 2) := by decide +kernel
theorem d9_3 : decode prog_155_method_13_code 3 = .ok (.iload_n 2, 1) := by decide +kernel
theorem d9_4 : decode prog_155_method_13_code 4 = .ok (.ifCond .le 12, 3) := by decide +kernel
theorem d9_7 : decode prog_155_method_13_code 7 = .ok (.aload_n 0, 1) := by decide +kernel
theorem d9_8 : decode prog_155_method_13_code 8 = .ok (.iload_n 1, 1) := by decide +kernel
theorem d9_9 : decode prog_155_method_13_code 9 = .ok (.iaload, 1) := by decide +kernel
theorem d9_10 : decode prog_155_method_13_code 10 = .ok (.iload_n 3, 1) := by decide +kernel
theorem ef9 (m : MethodId) (x0 : Int32) (x1 : Int32) : entryFrame m #[(.int x0), (.int x1)] 2 = mkF m 0 #[.val (.int x0), .val (.int x1)] [] := by first | (simp [entryFrame, mkF, argsToLocals, Value.category]; done) | rfl
theorem pn2 : plainName "java/lang/Integer" = true := by first | (simp [plainName, overriddenIn]; done) | decide +kernel
theorem d10_0 : decode jdk_33_method_40_code 0 = .ok (.iload_n 0, 1) := by decide +kernel
theorem d10_1 : decode jdk_33_method_40_code 1 = .ok (.iload_n 1, 1) := by decide +kernel
theorem d10_2 : decode jdk_33_method_40_code 2 = .ok (.if_icmp .ge 7, 3) := by decide +kernel
theorem d10_5 : decode jdk_33_method_40_code 5 = .ok (.iconst (-1), 1) := by decide +kernel
theorem d10_6 : decode jdk_33_method_40_code 6 = .ok (.goto 13, 3) := by decide +kernel
theorem d10_19 : decode jdk_33_method_40_code 19 = .ok (.ireturn, 1) := by decide +kernel
theorem d10_9 : decode jdk_33_method_40_code 9 = .ok (.iload_n 0, 1) := by decide +kernel
theorem d10_10 : decode jdk_33_method_40_code 10 = .ok (.iload_n 1, 1) := by decide +kernel
theorem d10_11 : decode jdk_33_method_40_code 11 = .ok (.if_icmp .ne 7, 3) := by decide +kernel
theorem d10_14 : decode jdk_33_method_40_code 14 = .ok (.iconst 0, 1) := by decide +kernel
theorem d10_15 : decode jdk_33_method_40_code 15 = .ok (.goto 4, 3) := by decide +kernel
theorem d10_18 : decode jdk_33_method_40_code 18 = .ok (.iconst 1, 1) := by decide +kernel
def Q10_10 (Z : State) (i0 : Int32) (i1 : Int32) (h0 : Heap) (n0 : Nat) (v : Option Value) (h : Heap) (L : List Loc) : Prop := Fr n0 L ∧ h = h0 ∧ ((v = some (.int (-1 : Int32)) ∧ i0 < i1) ∨ (v = some (.int (0 : Int32)) ∧ ¬ (i0 < i1) ∧ i0 = i1) ∨ (v = some (.int (1 : Int32)) ∧ ¬ (i0 < i1) ∧ ¬ (i0 = i1)))
set_option maxRecDepth 65536 in
set_option maxHeartbeats 40000000 in
theorem rm10_10 (l : Launch) (Z : State) (a0 : Array Value) (hw : ∀ d ∈ tables_1, d.before a0 Z = true) (ws : List Jvm.Cond) (i0 : Int32) (i1 : Int32) (h0 : Heap) (n0 : Nat) (O0 : Old Z n0 h0)   :
    MetFree l M7 (head1 (Jvm.Cond.code M7 jdk_33_method_40_code 2 (some .int) :: ws) ({ frames := 0, cells := 0, slots := 0, locals := 0 } : Room)) (fun a U => a = #[(.int i0), (.int i1)] ∧ Z.Warmed39 U.vm ∧ U.heap = h0) (fun _ _ _ _ _ => True) (fun _ U o U' => ∃ v L, o = .returned v ∧ Q10_10 Z i0 i1 h0 n0 v U'.heap L ∧ FrameEnd U o U' L ({ frames := 0, cells := 0, slots := 0, locals := 0 } : Room).cells ({ frames := 0, cells := 0, slots := 0, locals := 0 } : Room).slots) := by
 refine MetFree.of_bodySF (plainFor_of_name pn2) hisR ?_
 intro p e s m args below meth c s₁ Bd hml0 hP hK
 obtain ⟨rfl, hZ, hh⟩ := hP
 have hx := Bd.exec
 have hby := Bd.bytes
 have hml : c.maxLocals = 2 := hml0
 have hown : s.vm.findClass "java/lang/Integer" = some m.cls := findClass_of_methodNamed Bd.named
 have hnm := (name_of_methodNamed Bd.named Bd.method).1
 have X0 : Stand p l e ({ frames := 0, cells := 0, slots := 0, locals := 0 } : Room) s m #[(.int i0), (.int i1)] below meth c s₁ [] 0 0 := Stand.of_body Bd
 have e0 : s₁.heap = h0 := by rw [← hh, Bd.state]; rfl
 have N0 := Fr.nil n0
 let S0 : State → Prop := fun t => Steps p.tables e below (s₁.setTop (entryFrame m #[(.int i0), (.int i1)] 2)) t
 have p0 : ∀ t, St p e below s₁ (mkF m 0 #[.val (.int i0), .val (.int i1)] []) t → S0 t := fun t k => castTop (ef9 m i0 i1) k
 have p1 : ∀ t, St p e below s₁ (mkF m 2 #[.val (.int i0), .val (.int i1)] [(.int i1), (.int i0)]) t → S0 t := fun t k => p0 t (by
   refine XS.iloadN X0.here hx rfl (hb hby d10_0) rfl ?_
   refine XS.iloadN X0.here hx rfl (hb hby d10_1) rfl ?_
   exact k)
 by_cases g2 : i0 < i1
 ·
  have p3 : ∀ t, St p e below s₁ (mkF m 19 #[.val (.int i0), .val (.int i1)] [(.int (-1 : Int32))]) t → S0 t := fun t k => p1 t (by
    refine XS.icmpNo X0.here hx rfl (hb hby d10_2) rfl (tlt g2).2.1 ?_
    refine XT.iconstV X0.here hx rfl (-1 : Int32) (hb hby d10_5) (by decide) ?_
    refine XS.goto X0.here hx rfl (pc0 := 6) (pc' := 19) rfl (hb hby d10_6) (by decide) (by decide) ?_
    exact k)
  obtain ⟨fs, hr, hrun, hended, hW, hsame⟩ := X0.leave (v := some (.int (-1 : Int32))) (fun h => by rw [Bd.returns] at h; cases h)
  refine ⟨_, _, p3 _ ?_, hrun, hended, _, _, rfl, ?_, ⟨_, rfl⟩, hW, hsame.mono (by decide) (by decide)⟩
  · exact retOut X0 hx Bd.returns rfl (Or.inl ⟨rfl, by simp, _, rfl⟩) (hb hby d10_19) hr
  · show Q10_10 Z i0 i1 h0 n0 _ s₁.heap _
    exact ⟨N0, e0, (Or.inl ⟨rfl, g2⟩)⟩
 ·
  have p4 : ∀ t, St p e below s₁ (mkF m 11 #[.val (.int i0), .val (.int i1)] [(.int i1), (.int i0)]) t → S0 t := fun t k => p1 t (by
    refine XS.icmpYes X0.here hx rfl (pc0 := 2) (pc' := 9) rfl (hb hby d10_2) rfl (flt g2).2.1 (by decide) (by decide) ?_
    refine XS.iloadN X0.here hx rfl (hb hby d10_9) rfl ?_
    refine XS.iloadN X0.here hx rfl (hb hby d10_10) rfl ?_
    exact k)
  by_cases g5 : i0 = i1
  ·
   have p6 : ∀ t, St p e below s₁ (mkF m 19 #[.val (.int i0), .val (.int i1)] [(.int (0 : Int32))]) t → S0 t := fun t k => p4 t (by
     refine XS.icmpNo X0.here hx rfl (hb hby d10_11) rfl (teq g5).2 ?_
     refine XT.iconstV X0.here hx rfl (0 : Int32) (hb hby d10_14) (by decide) ?_
     refine XS.goto X0.here hx rfl (pc0 := 15) (pc' := 19) rfl (hb hby d10_15) (by decide) (by decide) ?_
     exact k)
   obtain ⟨fs, hr, hrun, hended, hW, hsame⟩ := X0.leave (v := some (.int (0 : Int32))) (fun h => by rw [Bd.returns] at h; cases h)
   refine ⟨_, _, p6 _ ?_, hrun, hended, _, _, rfl, ?_, ⟨_, rfl⟩, hW, hsame.mono (by decide) (by decide)⟩
   · exact retOut X0 hx Bd.returns rfl (Or.inl ⟨rfl, by simp, _, rfl⟩) (hb hby d10_19) hr
   · show Q10_10 Z i0 i1 h0 n0 _ s₁.heap _
     exact ⟨N0, e0, (Or.inr (Or.inl ⟨rfl, g2, g5⟩))⟩
  ·
   have p7 : ∀ t, St p e below s₁ (mkF m 19 #[.val (.int i0), .val (.int i1)] [(.int (1 : Int32))]) t → S0 t := fun t k => p4 t (by
     refine XS.icmpYes X0.here hx rfl (pc0 := 11) (pc' := 18) rfl (hb hby d10_11) rfl (feq g5).2 (by decide) (by decide) ?_
     refine XT.iconstV X0.here hx rfl (1 : Int32) (hb hby d10_18) (by decide) ?_
     exact k)
   obtain ⟨fs, hr, hrun, hended, hW, hsame⟩ := X0.leave (v := some (.int (1 : Int32))) (fun h => by rw [Bd.returns] at h; cases h)
   refine ⟨_, _, p7 _ ?_, hrun, hended, _, _, rfl, ?_, ⟨_, rfl⟩, hW, hsame.mono (by decide) (by decide)⟩
   · exact retOut X0 hx Bd.returns rfl (Or.inl ⟨rfl, by simp, _, rfl⟩) (hb hby d10_19) hr
   · show Q10_10 Z i0 i1 h0 n0 _ s₁.heap _
     exact ⟨N0, e0, (Or.inr (Or.inr (⟨rfl, g2, g5⟩)))⟩
theorem pd6 : parseMethodDescriptor "(II)I" = some ⟨[.int, .int], some .int⟩ := by decide +kernel
theorem d9_11 : decode prog_155_method_13_code 11 = .ok (.invokestatic 94, 3) := by decide +kernel
theorem d9_14 : decode prog_155_method_13_code 14 = .ok (.istore 6, 2) := by decide +kernel
theorem d9_16 : decode prog_155_method_13_code 16 = .ok (.iload 6, 2) := by decide +kernel
theorem d9_18 : decode prog_155_method_13_code 18 = .ok (.ifCond .ne 20, 3) := by decide +kernel
theorem d9_38 : decode prog_155_method_13_code 38 = .ok (.iload 6, 2) := by decide +kernel
theorem d9_40 : decode prog_155_method_13_code 40 = .ok (.ifCond .ne 20, 3) := by decide +kernel
theorem d9_60 : decode prog_155_method_13_code 60 = .ok (.iload 6, 2) := by decide +kernel
theorem d9_62 : decode prog_155_method_13_code 62 = .ok (.ireturn, 1) := by decide +kernel
theorem d9_21 : decode prog_155_method_13_code 21 = .ok (.iload_n 2, 1) := by decide +kernel
theorem d9_22 : decode prog_155_method_13_code 22 = .ok (.iconst 1, 1) := by decide +kernel
theorem d9_23 : decode prog_155_method_13_code 23 = .ok (.if_icmp .le 15, 3) := by decide +kernel
theorem d9_26 : decode prog_155_method_13_code 26 = .ok (.aload_n 0, 1) := by decide +kernel
theorem d9_27 : decode prog_155_method_13_code 27 = .ok (.iload_n 1, 1) := by decide +kernel
theorem d9_28 : decode prog_155_method_13_code 28 = .ok (.iconst 1, 1) := by decide +kernel
theorem d9_29 : decode prog_155_method_13_code 29 = .ok (.iadd, 1) := by decide +kernel
theorem d9_30 : decode prog_155_method_13_code 30 = .ok (.iaload, 1) := by decide +kernel
theorem d9_31 : decode prog_155_method_13_code 31 = .ok (.iload 4, 2) := by decide +kernel
theorem d9_33 : decode prog_155_method_13_code 33 = .ok (.invokestatic 94, 3) := by decide +kernel
theorem d9_36 : decode prog_155_method_13_code 36 = .ok (.istore 6, 2) := by decide +kernel
theorem d9_43 : decode prog_155_method_13_code 43 = .ok (.iload_n 2, 1) := by decide +kernel
theorem d9_44 : decode prog_155_method_13_code 44 = .ok (.iconst 2, 1) := by decide +kernel
theorem d9_45 : decode prog_155_method_13_code 45 = .ok (.if_icmp .le 15, 3) := by decide +kernel
theorem d9_48 : decode prog_155_method_13_code 48 = .ok (.aload_n 0, 1) := by decide +kernel
theorem d9_49 : decode prog_155_method_13_code 49 = .ok (.iload_n 1, 1) := by decide +kernel
theorem d9_50 : decode prog_155_method_13_code 50 = .ok (.iconst 2, 1) := by decide +kernel
theorem d9_51 : decode prog_155_method_13_code 51 = .ok (.iadd, 1) := by decide +kernel
theorem d9_52 : decode prog_155_method_13_code 52 = .ok (.iaload, 1) := by decide +kernel
theorem d9_53 : decode prog_155_method_13_code 53 = .ok (.iload 5, 2) := by decide +kernel
theorem d9_55 : decode prog_155_method_13_code 55 = .ok (.invokestatic 94, 3) := by decide +kernel
theorem d9_58 : decode prog_155_method_13_code 58 = .ok (.istore 6, 2) := by decide +kernel
def Q9_9 (Z : State) (i0 : Int32) (i1 : Int32) (i2 : Int32) (i3 : Int32) (i4 : Int32) (i5 : Int32) (i6 : Int32) (i7 : Int32) (i8 : Int32) (i9 : Int32) (i10 : Int32) (i11 : Int32) (i12 : Int32) (i13 : Int32) (i14 : Int32) (b0 : Addr) (k1 : ClassId) (h0 : Heap) (n0 : Nat) (v : Option Value) (h : Heap) (L : List Loc) : Prop := Fr n0 L ∧ h = h0 ∧ ((v = some (.int (own_cmp3 i3 i4 i5 i0 i1 i2))))
set_option maxRecDepth 65536 in
set_option maxHeartbeats 40000000 in
theorem rm9_9 (l : Launch) (Z : State) (a0 : Array Value) (hw : ∀ d ∈ tables_1, d.before a0 Z = true) (ws : List Jvm.Cond) (i0 : Int32) (i1 : Int32) (i2 : Int32) (i3 : Int32) (i4 : Int32) (i5 : Int32) (i6 : Int32) (i7 : Int32) (i8 : Int32) (i9 : Int32) (i10 : Int32) (i11 : Int32) (i12 : Int32) (i13 : Int32) (i14 : Int32) (b0 : Addr) (k1 : ClassId) (h0 : Heap) (n0 : Nat) (O0 : Old Z n0 h0)  (g_b0 : n0 ≤ b0) (f0 : Arv Z h0 b0 k1 .int (12 : Int32) [(.int i3), (.int i4), (.int i5), (.int i6), (.int i7), (.int i8), (.int i9), (.int i10), (.int i11), (.int i12), (.int i13), (.int i14)] (.int (0 : Int32))) (f1 : Exa Z h0 b0 "[I") :
    MetFree l M8 (head1 (Jvm.Cond.code M8 prog_155_method_13_code 7 (some .int) :: ws) ({ frames := 1, cells := 0, slots := 0, locals := 13 } : Room)) (fun a U => a = #[(.ref b0), (.int (0 : Int32)), (.int (3 : Int32)), (.int i0), (.int i1), (.int i2)] ∧ Z.Warmed39 U.vm ∧ U.heap = h0) (fun _ _ _ _ _ => True) (fun _ U o U' => ∃ v L, o = .returned v ∧ Q9_9 Z i0 i1 i2 i3 i4 i5 i6 i7 i8 i9 i10 i11 i12 i13 i14 b0 k1 h0 n0 v U'.heap L ∧ FrameEnd U o U' L ({ frames := 1, cells := 0, slots := 0, locals := 13 } : Room).cells ({ frames := 1, cells := 0, slots := 0, locals := 13 } : Room).slots) := by
 refine MetFree.of_bodySF (plainFor_of_name pn1) hisR ?_
 intro p e s m args below meth c s₁ Bd hml0 hP hK
 obtain ⟨rfl, hZ, hh⟩ := hP
 have hx := Bd.exec
 have hby := Bd.bytes
 have hml : c.maxLocals = 7 := hml0
 have hown : s.vm.findClass "com/example/quadrille/quadrille/store/SortedTriples" = some m.cls := findClass_of_methodNamed Bd.named
 have hnm := (name_of_methodNamed Bd.named Bd.method).1
 have X0 : Stand p l e ({ frames := 1, cells := 0, slots := 0, locals := 13 } : Room) s m #[(.ref b0), (.int (0 : Int32)), (.int (3 : Int32)), (.int i0), (.int i1), (.int i2)] below meth c s₁ [] 0 0 := Stand.of_body Bd
 have e0 : s₁.heap = h0 := by rw [← hh, Bd.state]; rfl
 have N0 := Fr.nil n0
 let S0 : State → Prop := fun t => Steps p.tables e below (s₁.setTop (entryFrame m #[(.ref b0), (.int (0 : Int32)), (.int (3 : Int32)), (.int i0), (.int i1), (.int i2)] 7)) t
 let Ls1 : Array Slot := #[.val (.ref b0), .val (.int (0 : Int32)), .val (.int (3 : Int32)), .val (.int i0), .val (.int i1), .val (.int i2), .unset]
 have p0 : ∀ t, St p e below s₁ (mkF m 0 Ls1 []) t → S0 t := fun t k => castTop (ef8 m b0 (0 : Int32) (3 : Int32) i0 i1 i2) k
 let Ls2 : Array Slot := #[.val (.ref b0), .val (.int (0 : Int32)), .val (.int (3 : Int32)), .val (.int i0), .val (.int i1), .val (.int i2), .val (.int (0 : Int32))]
 have p3 : ∀ t, St p e below s₁ (mkF m 9 Ls2 [(.int (0 : Int32)), (.ref b0)]) t → S0 t := fun t k => p0 t (by
   refine XT.iconstV X0.here hx rfl (0 : Int32) (hb hby d9_0) (by decide) ?_
   refine XS.istore X0.here hx rfl (hb hby d9_1) rfl (l' := Ls2) rfl ?_
   refine XS.iloadN X0.here hx rfl (hb hby d9_3) rfl ?_
   refine XS.ifNo X0.here hx rfl (hb hby d9_4) rfl ((if0 _ _).trans (tlt (by decide : (0 : Int32) < (3 : Int32))).2.2.2) ?_
   refine XS.aloadN X0.here hx rfl (hb hby d9_7) rfl rfl ?_
   show St p e below s₁ (mkF m 8 Ls2 [(.ref b0)]) t
   refine XS.iloadN X0.here hx rfl (hb hby d9_8) rfl ?_
   exact k)
 obtain ⟨cl4, Ar4, -, Sz4, -, Hs4, -⟩ := id f0
 have hin4 : ¬ ((0 : Int32) < 0 ∨ cl4.slots.size ≤ (0 : Int32).toNatClampNeg) := inb_of Sz4 ⟨by decide, by decide⟩
 have hat4 : cl4.slots[(0 : Int32).toNatClampNeg]? = some (.int i3) := Hs4.at hin4 rfl
 have p5 : ∀ t, St p e below s₁ (mkF m 11 Ls2 [(.int i0), (.int i3)]) t → S0 t := fun t k => p3 t (by
   refine X0.iaload hx (j := (0 : Int32)) (v := (.int i3)) (by rw [e0]; exact Ar4.1) (State.isArrayOf_alike hZ.alike Ar4.2.1) Ar4.2.2 hin4 hat4 (g := (mkF m 9 Ls2 [(.int (0 : Int32)), (.ref b0)])) rfl rfl (hb hby d9_9) _ ?_
   refine XS.iloadN X0.here hx rfl (hb hby d9_10) rfl ?_
   exact k)
 obtain ⟨_, _, ⟨Tc6, Lc6, kc6, nc6⟩, -, Xc6, ⟨Lcc6, hQc6, lc6, yc6, zc6⟩, stc6⟩ := Jvm.LawKit.callS X0 hx (y := M7) hown (mvT hZ (ww hw 57 rfl)) (mvT hZ (ww hw 58 rfl)) (mvT hZ (ww hw 59 rfl)) (mvT hZ (ww hw 60 rfl)) (by decide) (backOf (W := 0) (rm10_10 l Z a0 hw [] i3 i0 h0 n0 O0  ) hZ (ww hw 60 rfl) (ww hw 59 rfl) (by decide) (by decide)) (g := (mkF m 11 Ls2 [(.int i0), (.int i3)])) rfl (by rw [hml]; rfl) (argsL := [(.int i3), (.int i0)]) (rest := []) (lenOf pd6 rfl) rfl (by show 2 * 0 + _ ≤ _; exact Nat.le_of_eq rfl) (hb hby d9_11) (fun _ _ => ⟨rfl, e0, (by decide : 0 + 0 ≤ _), (by decide : 0 + 0 ≤ _)⟩)
 dsimp only [Pt.U, Pt.locs, Pt.cells, Pt.slots] at Xc6 lc6 yc6 zc6 stc6 hQc6
 subst lc6 yc6 zc6
 obtain ⟨Nqc6, ec6, hAc6⟩ := hQc6
 have Nc6 := Fr.app N0 Nqc6
 rcases hAc6 with ⟨rfl, g7⟩ | ⟨rfl, g8, g9⟩ | ⟨rfl, g10, g11⟩
 ·
  have p12 : ∀ t, St p e below Tc6 (mkF m 14 Ls2 [(.int (-1 : Int32))]) t → S0 t := fun t k => p5 t (stc6 t k)
  let Ls13 : Array Slot := #[.val (.ref b0), .val (.int (0 : Int32)), .val (.int (3 : Int32)), .val (.int i0), .val (.int i1), .val (.int i2), .val (.int (-1 : Int32))]
  have p14 : ∀ t, St p e below Tc6 (mkF m 62 Ls13 [(.int (-1 : Int32))]) t → S0 t := fun t k => p12 t (by
    refine XS.istore Xc6.here hx rfl (hb hby d9_14) rfl (l' := Ls13) rfl ?_
    refine XS.iload Xc6.here hx rfl (hb hby d9_16) rfl ?_
    refine XS.ifYes Xc6.here hx rfl (pc0 := 18) (pc' := 38) rfl (hb hby d9_18) rfl ((if0 _ _).trans (feq (by decide : ¬ ((-1 : Int32) = (0 : Int32)))).2) (by decide) (by decide) ?_
    refine XS.iload Xc6.here hx rfl (hb hby d9_38) rfl ?_
    refine XS.ifYes Xc6.here hx rfl (pc0 := 40) (pc' := 60) rfl (hb hby d9_40) rfl ((if0 _ _).trans (feq (by decide : ¬ ((-1 : Int32) = (0 : Int32)))).2) (by decide) (by decide) ?_
    show St p e below Tc6 (mkF m 60 Ls13 []) t
    refine XS.iload Xc6.here hx rfl (hb hby d9_60) rfl ?_
    exact k)
  obtain ⟨fs, hr, hrun, hended, hW, hsame⟩ := Xc6.leave (v := some (.int (-1 : Int32))) (fun h => by rw [Bd.returns] at h; cases h)
  refine ⟨_, _, p14 _ ?_, hrun, hended, _, _, rfl, ?_, ⟨_, rfl⟩, hW, hsame.mono (by decide) (by decide)⟩
  · exact retOut Xc6 hx Bd.returns rfl (Or.inl ⟨rfl, by simp, _, rfl⟩) (hb hby d9_62) hr
  · show Q9_9 Z i0 i1 i2 i3 i4 i5 i6 i7 i8 i9 i10 i11 i12 i13 i14 b0 k1 h0 n0 _ Tc6.heap _
    exact ⟨Nc6, ec6, (congrArg (fun z => some (Value.int z)) (by unfold own_cmp3; (repeat' split) <;> first | rfl | contradiction | (simp_all; done) : (-1 : Int32) = (own_cmp3 i3 i4 i5 i0 i1 i2)))⟩
 ·
  have p15 : ∀ t, St p e below Tc6 (mkF m 14 Ls2 [(.int (0 : Int32))]) t → S0 t := fun t k => p5 t (stc6 t k)
  have p16 : ∀ t, St p e below Tc6 (mkF m 30 Ls2 [(.int (1 : Int32)), (.ref b0)]) t → S0 t := fun t k => p15 t (by
    refine XS.istore Xc6.here hx rfl (hb hby d9_14) rfl (l' := Ls2) rfl ?_
    refine XS.iload Xc6.here hx rfl (hb hby d9_16) rfl ?_
    refine XS.ifNo Xc6.here hx rfl (hb hby d9_18) rfl ((if0 _ _).trans (teq (by decide : (0 : Int32) = (0 : Int32))).2) ?_
    refine XS.iloadN Xc6.here hx rfl (hb hby d9_21) rfl ?_
    refine XT.iconstV Xc6.here hx rfl (1 : Int32) (hb hby d9_22) (by decide) ?_
    show St p e below Tc6 (mkF m 23 Ls2 [(.int (1 : Int32)), (.int (3 : Int32))]) t
    refine XS.icmpNo Xc6.here hx rfl (hb hby d9_23) rfl (tlt (by decide : (1 : Int32) < (3 : Int32))).2.2.2 ?_
    refine XS.aloadN Xc6.here hx rfl (hb hby d9_26) rfl rfl ?_
    refine XS.iloadN Xc6.here hx rfl (hb hby d9_27) rfl ?_
    refine XT.iconstV Xc6.here hx rfl (1 : Int32) (hb hby d9_28) (by decide) ?_
    refine XS.iadd Xc6.here hx rfl (hb hby d9_29) rfl ?_
    exact k)
  obtain ⟨cl17, Ar17, -, Sz17, -, Hs17, -⟩ := id f0
  have hin17 : ¬ ((1 : Int32) < 0 ∨ cl17.slots.size ≤ (1 : Int32).toNatClampNeg) := inb_of Sz17 ⟨by decide, by decide⟩
  have hat17 : cl17.slots[(1 : Int32).toNatClampNeg]? = some (.int i4) := Hs17.at hin17 rfl
  have p18 : ∀ t, St p e below Tc6 (mkF m 33 Ls2 [(.int i1), (.int i4)]) t → S0 t := fun t k => p16 t (by
    refine Xc6.iaload hx (j := (1 : Int32)) (v := (.int i4)) (by rw [ec6]; exact Ar17.1) (State.isArrayOf_alike hZ.alike Ar17.2.1) Ar17.2.2 hin17 hat17 (g := (mkF m 30 Ls2 [(.int (1 : Int32)), (.ref b0)])) rfl rfl (hb hby d9_30) _ ?_
    refine XS.iload Xc6.here hx rfl (hb hby d9_31) rfl ?_
    exact k)
  obtain ⟨_, _, ⟨Tc19, Lc19, kc19, nc19⟩, -, Xc19, ⟨Lcc19, hQc19, lc19, yc19, zc19⟩, stc19⟩ := Jvm.LawKit.callS Xc6 hx (y := M7) hown (mvT hZ (ww hw 57 rfl)) (mvT hZ (ww hw 58 rfl)) (mvT hZ (ww hw 59 rfl)) (mvT hZ (ww hw 60 rfl)) (by decide) (backOf (W := 0) (rm10_10 l Z a0 hw [] i4 i1 h0 n0 O0  ) hZ (ww hw 60 rfl) (ww hw 59 rfl) (by decide) (by decide)) (g := (mkF m 33 Ls2 [(.int i1), (.int i4)])) rfl (by rw [hml]; rfl) (argsL := [(.int i4), (.int i1)]) (rest := []) (lenOf pd6 rfl) rfl (by show 2 * 0 + _ ≤ _; exact Nat.le_of_eq rfl) (hb hby d9_33) (fun _ _ => ⟨rfl, ec6, (by decide : 0 + 0 ≤ _), (by decide : 0 + 0 ≤ _)⟩)
  dsimp only [Pt.U, Pt.locs, Pt.cells, Pt.slots] at Xc19 lc19 yc19 zc19 stc19 hQc19
  subst lc19 yc19 zc19
  obtain ⟨Nqc19, ec19, hAc19⟩ := hQc19
  have Nc19 := Fr.app Nc6 Nqc19
  rcases hAc19 with ⟨rfl, g20⟩ | ⟨rfl, g21, g22⟩ | ⟨rfl, g23, g24⟩
  ·
   have p25 : ∀ t, St p e below Tc19 (mkF m 36 Ls2 [(.int (-1 : Int32))]) t → S0 t := fun t k => p18 t (stc19 t k)
   let Ls26 : Array Slot := #[.val (.ref b0), .val (.int (0 : Int32)), .val (.int (3 : Int32)), .val (.int i0), .val (.int i1), .val (.int i2), .val (.int (-1 : Int32))]
   have p27 : ∀ t, St p e below Tc19 (mkF m 62 Ls26 [(.int (-1 : Int32))]) t → S0 t := fun t k => p25 t (by
     refine XS.istore Xc19.here hx rfl (hb hby d9_36) rfl (l' := Ls26) rfl ?_
     refine XS.iload Xc19.here hx rfl (hb hby d9_38) rfl ?_
     refine XS.ifYes Xc19.here hx rfl (pc0 := 40) (pc' := 60) rfl (hb hby d9_40) rfl ((if0 _ _).trans (feq (by decide : ¬ ((-1 : Int32) = (0 : Int32)))).2) (by decide) (by decide) ?_
     refine XS.iload Xc19.here hx rfl (hb hby d9_60) rfl ?_
     exact k)
   obtain ⟨fs, hr, hrun, hended, hW, hsame⟩ := Xc19.leave (v := some (.int (-1 : Int32))) (fun h => by rw [Bd.returns] at h; cases h)
   refine ⟨_, _, p27 _ ?_, hrun, hended, _, _, rfl, ?_, ⟨_, rfl⟩, hW, hsame.mono (by decide) (by decide)⟩
   · exact retOut Xc19 hx Bd.returns rfl (Or.inl ⟨rfl, by simp, _, rfl⟩) (hb hby d9_62) hr
   · show Q9_9 Z i0 i1 i2 i3 i4 i5 i6 i7 i8 i9 i10 i11 i12 i13 i14 b0 k1 h0 n0 _ Tc19.heap _
     exact ⟨Nc19, ec19, (congrArg (fun z => some (Value.int z)) (by unfold own_cmp3; (repeat' split) <;> first | rfl | contradiction | (simp_all; done) : (-1 : Int32) = (own_cmp3 i3 i4 i5 i0 i1 i2)))⟩
  ·
   have p28 : ∀ t, St p e below Tc19 (mkF m 36 Ls2 [(.int (0 : Int32))]) t → S0 t := fun t k => p18 t (stc19 t k)
   have p29 : ∀ t, St p e below Tc19 (mkF m 52 Ls2 [(.int (2 : Int32)), (.ref b0)]) t → S0 t := fun t k => p28 t (by
     refine XS.istore Xc19.here hx rfl (hb hby d9_36) rfl (l' := Ls2) rfl ?_
     refine XS.iload Xc19.here hx rfl (hb hby d9_38) rfl ?_
     refine XS.ifNo Xc19.here hx rfl (hb hby d9_40) rfl ((if0 _ _).trans (teq (by decide : (0 : Int32) = (0 : Int32))).2) ?_
     refine XS.iloadN Xc19.here hx rfl (hb hby d9_43) rfl ?_
     refine XT.iconstV Xc19.here hx rfl (2 : Int32) (hb hby d9_44) (by decide) ?_
     show St p e below Tc19 (mkF m 45 Ls2 [(.int (2 : Int32)), (.int (3 : Int32))]) t
     refine XS.icmpNo Xc19.here hx rfl (hb hby d9_45) rfl (tlt (by decide : (2 : Int32) < (3 : Int32))).2.2.2 ?_
     refine XS.aloadN Xc19.here hx rfl (hb hby d9_48) rfl rfl ?_
     refine XS.iloadN Xc19.here hx rfl (hb hby d9_49) rfl ?_
     refine XT.iconstV Xc19.here hx rfl (2 : Int32) (hb hby d9_50) (by decide) ?_
     refine XS.iadd Xc19.here hx rfl (hb hby d9_51) rfl ?_
     exact k)
   obtain ⟨cl30, Ar30, -, Sz30, -, Hs30, -⟩ := id f0
   have hin30 : ¬ ((2 : Int32) < 0 ∨ cl30.slots.size ≤ (2 : Int32).toNatClampNeg) := inb_of Sz30 ⟨by decide, by decide⟩
   have hat30 : cl30.slots[(2 : Int32).toNatClampNeg]? = some (.int i5) := Hs30.at hin30 rfl
   have p31 : ∀ t, St p e below Tc19 (mkF m 55 Ls2 [(.int i2), (.int i5)]) t → S0 t := fun t k => p29 t (by
     refine Xc19.iaload hx (j := (2 : Int32)) (v := (.int i5)) (by rw [ec19]; exact Ar30.1) (State.isArrayOf_alike hZ.alike Ar30.2.1) Ar30.2.2 hin30 hat30 (g := (mkF m 52 Ls2 [(.int (2 : Int32)), (.ref b0)])) rfl rfl (hb hby d9_52) _ ?_
     refine XS.iload Xc19.here hx rfl (hb hby d9_53) rfl ?_
     exact k)
   obtain ⟨_, _, ⟨Tc32, Lc32, kc32, nc32⟩, -, Xc32, ⟨Lcc32, hQc32, lc32, yc32, zc32⟩, stc32⟩ := Jvm.LawKit.callS Xc19 hx (y := M7) hown (mvT hZ (ww hw 57 rfl)) (mvT hZ (ww hw 58 rfl)) (mvT hZ (ww hw 59 rfl)) (mvT hZ (ww hw 60 rfl)) (by decide) (backOf (W := 0) (rm10_10 l Z a0 hw [] i5 i2 h0 n0 O0  ) hZ (ww hw 60 rfl) (ww hw 59 rfl) (by decide) (by decide)) (g := (mkF m 55 Ls2 [(.int i2), (.int i5)])) rfl (by rw [hml]; rfl) (argsL := [(.int i5), (.int i2)]) (rest := []) (lenOf pd6 rfl) rfl (by show 2 * 0 + _ ≤ _; exact Nat.le_of_eq rfl) (hb hby d9_55) (fun _ _ => ⟨rfl, ec19, (by decide : 0 + 0 ≤ _), (by decide : 0 + 0 ≤ _)⟩)
   dsimp only [Pt.U, Pt.locs, Pt.cells, Pt.slots] at Xc32 lc32 yc32 zc32 stc32 hQc32
   subst lc32 yc32 zc32
   obtain ⟨Nqc32, ec32, hAc32⟩ := hQc32
   have Nc32 := Fr.app Nc19 Nqc32
   rcases hAc32 with ⟨rfl, g33⟩ | ⟨rfl, g34, g35⟩ | ⟨rfl, g36, g37⟩
   ·
    have p38 : ∀ t, St p e below Tc32 (mkF m 58 Ls2 [(.int (-1 : Int32))]) t → S0 t := fun t k => p31 t (stc32 t k)
    let Ls39 : Array Slot := #[.val (.ref b0), .val (.int (0 : Int32)), .val (.int (3 : Int32)), .val (.int i0), .val (.int i1), .val (.int i2), .val (.int (-1 : Int32))]
    have p40 : ∀ t, St p e below Tc32 (mkF m 62 Ls39 [(.int (-1 : Int32))]) t → S0 t := fun t k => p38 t (by
      refine XS.istore Xc32.here hx rfl (hb hby d9_58) rfl (l' := Ls39) rfl ?_
      refine XS.iload Xc32.here hx rfl (hb hby d9_60) rfl ?_
      exact k)
    obtain ⟨fs, hr, hrun, hended, hW, hsame⟩ := Xc32.leave (v := some (.int (-1 : Int32))) (fun h => by rw [Bd.returns] at h; cases h)
    refine ⟨_, _, p40 _ ?_, hrun, hended, _, _, rfl, ?_, ⟨_, rfl⟩, hW, hsame.mono (by decide) (by decide)⟩
    · exact retOut Xc32 hx Bd.returns rfl (Or.inl ⟨rfl, by simp, _, rfl⟩) (hb hby d9_62) hr
    · show Q9_9 Z i0 i1 i2 i3 i4 i5 i6 i7 i8 i9 i10 i11 i12 i13 i14 b0 k1 h0 n0 _ Tc32.heap _
      exact ⟨Nc32, ec32, (congrArg (fun z => some (Value.int z)) (by unfold own_cmp3; (repeat' split) <;> first | rfl | contradiction | (simp_all; done) : (-1 : Int32) = (own_cmp3 i3 i4 i5 i0 i1 i2)))⟩
   ·
    have p41 : ∀ t, St p e below Tc32 (mkF m 58 Ls2 [(.int (0 : Int32))]) t → S0 t := fun t k => p31 t (stc32 t k)
    have p42 : ∀ t, St p e below Tc32 (mkF m 62 Ls2 [(.int (0 : Int32))]) t → S0 t := fun t k => p41 t (by
      refine XS.istore Xc32.here hx rfl (hb hby d9_58) rfl (l' := Ls2) rfl ?_
      refine XS.iload Xc32.here hx rfl (hb hby d9_60) rfl ?_
      exact k)
    obtain ⟨fs, hr, hrun, hended, hW, hsame⟩ := Xc32.leave (v := some (.int (0 : Int32))) (fun h => by rw [Bd.returns] at h; cases h)
    refine ⟨_, _, p42 _ ?_, hrun, hended, _, _, rfl, ?_, ⟨_, rfl⟩, hW, hsame.mono (by decide) (by decide)⟩
    · exact retOut Xc32 hx Bd.returns rfl (Or.inl ⟨rfl, by simp, _, rfl⟩) (hb hby d9_62) hr
    · show Q9_9 Z i0 i1 i2 i3 i4 i5 i6 i7 i8 i9 i10 i11 i12 i13 i14 b0 k1 h0 n0 _ Tc32.heap _
      exact ⟨Nc32, ec32, (congrArg (fun z => some (Value.int z)) (by unfold own_cmp3; (repeat' split) <;> first | rfl | contradiction | (simp_all; done) : (0 : Int32) = (own_cmp3 i3 i4 i5 i0 i1 i2)))⟩
   ·
    have p43 : ∀ t, St p e below Tc32 (mkF m 58 Ls2 [(.int (1 : Int32))]) t → S0 t := fun t k => p31 t (stc32 t k)
    let Ls44 : Array Slot := #[.val (.ref b0), .val (.int (0 : Int32)), .val (.int (3 : Int32)), .val (.int i0), .val (.int i1), .val (.int i2), .val (.int (1 : Int32))]
    have p45 : ∀ t, St p e below Tc32 (mkF m 62 Ls44 [(.int (1 : Int32))]) t → S0 t := fun t k => p43 t (by
      refine XS.istore Xc32.here hx rfl (hb hby d9_58) rfl (l' := Ls44) rfl ?_
      refine XS.iload Xc32.here hx rfl (hb hby d9_60) rfl ?_
      exact k)
    obtain ⟨fs, hr, hrun, hended, hW, hsame⟩ := Xc32.leave (v := some (.int (1 : Int32))) (fun h => by rw [Bd.returns] at h; cases h)
    refine ⟨_, _, p45 _ ?_, hrun, hended, _, _, rfl, ?_, ⟨_, rfl⟩, hW, hsame.mono (by decide) (by decide)⟩
    · exact retOut Xc32 hx Bd.returns rfl (Or.inl ⟨rfl, by simp, _, rfl⟩) (hb hby d9_62) hr
    · show Q9_9 Z i0 i1 i2 i3 i4 i5 i6 i7 i8 i9 i10 i11 i12 i13 i14 b0 k1 h0 n0 _ Tc32.heap _
      exact ⟨Nc32, ec32, (congrArg (fun z => some (Value.int z)) (by unfold own_cmp3; (repeat' split) <;> first | rfl | contradiction | (simp_all; done) : (1 : Int32) = (own_cmp3 i3 i4 i5 i0 i1 i2)))⟩
  ·
   have p46 : ∀ t, St p e below Tc19 (mkF m 36 Ls2 [(.int (1 : Int32))]) t → S0 t := fun t k => p18 t (stc19 t k)
   let Ls47 : Array Slot := #[.val (.ref b0), .val (.int (0 : Int32)), .val (.int (3 : Int32)), .val (.int i0), .val (.int i1), .val (.int i2), .val (.int (1 : Int32))]
   have p48 : ∀ t, St p e below Tc19 (mkF m 62 Ls47 [(.int (1 : Int32))]) t → S0 t := fun t k => p46 t (by
     refine XS.istore Xc19.here hx rfl (hb hby d9_36) rfl (l' := Ls47) rfl ?_
     refine XS.iload Xc19.here hx rfl (hb hby d9_38) rfl ?_
     refine XS.ifYes Xc19.here hx rfl (pc0 := 40) (pc' := 60) rfl (hb hby d9_40) rfl ((if0 _ _).trans (feq (by decide : ¬ ((1 : Int32) = (0 : Int32)))).2) (by decide) (by decide) ?_
     refine XS.iload Xc19.here hx rfl (hb hby d9_60) rfl ?_
     exact k)
   obtain ⟨fs, hr, hrun, hended, hW, hsame⟩ := Xc19.leave (v := some (.int (1 : Int32))) (fun h => by rw [Bd.returns] at h; cases h)
   refine ⟨_, _, p48 _ ?_, hrun, hended, _, _, rfl, ?_, ⟨_, rfl⟩, hW, hsame.mono (by decide) (by decide)⟩
   · exact retOut Xc19 hx Bd.returns rfl (Or.inl ⟨rfl, by simp, _, rfl⟩) (hb hby d9_62) hr
   · show Q9_9 Z i0 i1 i2 i3 i4 i5 i6 i7 i8 i9 i10 i11 i12 i13 i14 b0 k1 h0 n0 _ Tc19.heap _
     exact ⟨Nc19, ec19, (congrArg (fun z => some (Value.int z)) (by unfold own_cmp3; (repeat' split) <;> first | rfl | contradiction | (simp_all; done) : (1 : Int32) = (own_cmp3 i3 i4 i5 i0 i1 i2)))⟩
 ·
  have p49 : ∀ t, St p e below Tc6 (mkF m 14 Ls2 [(.int (1 : Int32))]) t → S0 t := fun t k => p5 t (stc6 t k)
  let Ls50 : Array Slot := #[.val (.ref b0), .val (.int (0 : Int32)), .val (.int (3 : Int32)), .val (.int i0), .val (.int i1), .val (.int i2), .val (.int (1 : Int32))]
  have p51 : ∀ t, St p e below Tc6 (mkF m 62 Ls50 [(.int (1 : Int32))]) t → S0 t := fun t k => p49 t (by
    refine XS.istore Xc6.here hx rfl (hb hby d9_14) rfl (l' := Ls50) rfl ?_
    refine XS.iload Xc6.here hx rfl (hb hby d9_16) rfl ?_
    refine XS.ifYes Xc6.here hx rfl (pc0 := 18) (pc' := 38) rfl (hb hby d9_18) rfl ((if0 _ _).trans (feq (by decide : ¬ ((1 : Int32) = (0 : Int32)))).2) (by decide) (by decide) ?_
    refine XS.iload Xc6.here hx rfl (hb hby d9_38) rfl ?_
    refine XS.ifYes Xc6.here hx rfl (pc0 := 40) (pc' := 60) rfl (hb hby d9_40) rfl ((if0 _ _).trans (feq (by decide : ¬ ((1 : Int32) = (0 : Int32)))).2) (by decide) (by decide) ?_
    show St p e below Tc6 (mkF m 60 Ls50 []) t
    refine XS.iload Xc6.here hx rfl (hb hby d9_60) rfl ?_
    exact k)
  obtain ⟨fs, hr, hrun, hended, hW, hsame⟩ := Xc6.leave (v := some (.int (1 : Int32))) (fun h => by rw [Bd.returns] at h; cases h)
  refine ⟨_, _, p51 _ ?_, hrun, hended, _, _, rfl, ?_, ⟨_, rfl⟩, hW, hsame.mono (by decide) (by decide)⟩
  · exact retOut Xc6 hx Bd.returns rfl (Or.inl ⟨rfl, by simp, _, rfl⟩) (hb hby d9_62) hr
  · show Q9_9 Z i0 i1 i2 i3 i4 i5 i6 i7 i8 i9 i10 i11 i12 i13 i14 b0 k1 h0 n0 _ Tc6.heap _
    exact ⟨Nc6, ec6, (congrArg (fun z => some (Value.int z)) (by unfold own_cmp3; (repeat' split) <;> first | rfl | contradiction | (simp_all; done) : (1 : Int32) = (own_cmp3 i3 i4 i5 i0 i1 i2)))⟩
theorem pd7 : parseMethodDescriptor "([IIIIII)I" = some ⟨[(.array .int), .int, .int, .int, .int, .int], some .int⟩ := by decide +kernel
theorem d7_32 : decode prog_155_method_11_code 32 = .ok (.invokestatic 81, 3) := by decide +kernel
theorem d7_35 : decode prog_155_method_11_code 35 = .ok (.istore 8, 2) := by decide +kernel
theorem d7_37 : decode prog_155_method_11_code 37 = .ok (.iload 8, 2) := by decide +kernel
theorem d7_39 : decode prog_155_method_11_code 39 = .ok (.ifCond .ge 12, 3) := by decide +kernel
theorem d7_42 : decode prog_155_method_11_code 42 = .ok (.iload 7, 2) := by decide +kernel
theorem d7_44 : decode prog_155_method_11_code 44 = .ok (.iconst 1, 1) := by decide +kernel
theorem d7_45 : decode prog_155_method_11_code 45 = .ok (.iadd, 1) := by decide +kernel
theorem d7_46 : decode prog_155_method_11_code 46 = .ok (.istore 5, 2) := by decide +kernel
theorem d7_48 : decode prog_155_method_11_code 48 = .ok (.goto 18, 3) := by decide +kernel
theorem d7_66 : decode prog_155_method_11_code 66 = .ok (.goto (-60), 3) := by decide +kernel
theorem d7_51 : decode prog_155_method_11_code 51 = .ok (.iload 8, 2) := by decide +kernel
theorem d7_53 : decode prog_155_method_11_code 53 = .ok (.ifCond .le 10, 3) := by decide +kernel
theorem d7_56 : decode prog_155_method_11_code 56 = .ok (.iload 7, 2) := by decide +kernel
theorem d7_58 : decode prog_155_method_11_code 58 = .ok (.istore 6, 2) := by decide +kernel
theorem d7_60 : decode prog_155_method_11_code 60 = .ok (.goto 6, 3) := by decide +kernel
theorem d7_63 : decode prog_155_method_11_code 63 = .ok (.iload 7, 2) := by decide +kernel
theorem d7_65 : decode prog_155_method_11_code 65 = .ok (.ireturn, 1) := by decide +kernel
def Q7_8 (Z : State) (i0 : Int32) (i1 : Int32) (i2 : Int32) (i3 : Int32) (i4 : Int32) (i5 : Int32) (i6 : Int32) (i7 : Int32) (i8 : Int32) (i9 : Int32) (i10 : Int32) (i11 : Int32) (i12 : Int32) (i13 : Int32) (i14 : Int32) (b0 : Addr) (k1 : ClassId) (h0 : Heap) (n0 : Nat) (v : Option Value) (h : Heap) (L : List Loc) : Prop := Fr n0 L ∧ h = h0 ∧ ((v = some (.int (-2 : Int32)) ∧ (own_cmp3 i3 i4 i5 i0 i1 i2) < (0 : Int32)) ∨ (v = some (.int (-1 : Int32)) ∧ ¬ ((own_cmp3 i3 i4 i5 i0 i1 i2) < (0 : Int32)) ∧ (0 : Int32) < (own_cmp3 i3 i4 i5 i0 i1 i2)) ∨ (v = some (.int (0 : Int32)) ∧ ¬ ((own_cmp3 i3 i4 i5 i0 i1 i2) < (0 : Int32)) ∧ ¬ ((0 : Int32) < (own_cmp3 i3 i4 i5 i0 i1 i2))))
set_option maxRecDepth 65536 in
set_option maxHeartbeats 40000000 in
theorem rm7_8 (l : Launch) (Z : State) (a0 : Array Value) (hw : ∀ d ∈ tables_1, d.before a0 Z = true) (ws : List Jvm.Cond) (i0 : Int32) (i1 : Int32) (i2 : Int32) (i3 : Int32) (i4 : Int32) (i5 : Int32) (i6 : Int32) (i7 : Int32) (i8 : Int32) (i9 : Int32) (i10 : Int32) (i11 : Int32) (i12 : Int32) (i13 : Int32) (i14 : Int32) (b0 : Addr) (k1 : ClassId) (h0 : Heap) (n0 : Nat) (O0 : Old Z n0 h0)  (g_b0 : n0 ≤ b0) (f0 : Arv Z h0 b0 k1 .int (12 : Int32) [(.int i3), (.int i4), (.int i5), (.int i6), (.int i7), (.int i8), (.int i9), (.int i10), (.int i11), (.int i12), (.int i13), (.int i14)] (.int (0 : Int32))) (f1 : Exa Z h0 b0 "[I") :
    MetFree l M4 (head1 (Jvm.Cond.code M4 prog_155_method_11_code 9 (some .int) :: ws) ({ frames := 2, cells := 0, slots := 0, locals := 31 } : Room)) (fun a U => a = #[(.ref b0), (.int (1 : Int32)), (.int i0), (.int i1), (.int i2)] ∧ Z.Warmed39 U.vm ∧ U.heap = h0) (fun _ _ _ _ _ => True) (fun _ U o U' => ∃ v L, o = .returned v ∧ Q7_8 Z i0 i1 i2 i3 i4 i5 i6 i7 i8 i9 i10 i11 i12 i13 i14 b0 k1 h0 n0 v U'.heap L ∧ FrameEnd U o U' L ({ frames := 2, cells := 0, slots := 0, locals := 31 } : Room).cells ({ frames := 2, cells := 0, slots := 0, locals := 31 } : Room).slots) := by
 refine MetFree.of_bodySF (plainFor_of_name pn1) hisR ?_
 intro p e s m args below meth c s₁ Bd hml0 hP hK
 obtain ⟨rfl, hZ, hh⟩ := hP
 have hx := Bd.exec
 have hby := Bd.bytes
 have hml : c.maxLocals = 9 := hml0
 have hown : s.vm.findClass "com/example/quadrille/quadrille/store/SortedTriples" = some m.cls := findClass_of_methodNamed Bd.named
 have hnm := (name_of_methodNamed Bd.named Bd.method).1
 have X0 : Stand p l e ({ frames := 2, cells := 0, slots := 0, locals := 31 } : Room) s m #[(.ref b0), (.int (1 : Int32)), (.int i0), (.int i1), (.int i2)] below meth c s₁ [] 0 0 := Stand.of_body Bd
 have e0 : s₁.heap = h0 := by rw [← hh, Bd.state]; rfl
 have N0 := Fr.nil n0
 let S0 : State → Prop := fun t => Steps p.tables e below (s₁.setTop (entryFrame m #[(.ref b0), (.int (1 : Int32)), (.int i0), (.int i1), (.int i2)] 9)) t
 let Ls1 : Array Slot := #[.val (.ref b0), .val (.int (1 : Int32)), .val (.int i0), .val (.int i1), .val (.int i2), .unset, .unset, .unset, .unset]
 have p0 : ∀ t, St p e below s₁ (mkF m 0 Ls1 []) t → S0 t := fun t k => castTop (ef6 m b0 (1 : Int32) i0 i1 i2) k
 let Ls2 : Array Slot := #[.val (.ref b0), .val (.int (1 : Int32)), .val (.int i0), .val (.int i1), .val (.int i2), .val (.int (0 : Int32)), .unset, .unset, .unset]
 let Ls3 : Array Slot := #[.val (.ref b0), .val (.int (1 : Int32)), .val (.int i0), .val (.int i1), .val (.int i2), .val (.int (0 : Int32)), .val (.int (1 : Int32)), .unset, .unset]
 let Ls4 : Array Slot := #[.val (.ref b0), .val (.int (1 : Int32)), .val (.int i0), .val (.int i1), .val (.int i2), .val (.int (0 : Int32)), .val (.int (1 : Int32)), .val (.int (0 : Int32)), .unset]
 have p5 : ∀ t, St p e below s₁ (mkF m 32 Ls4 [(.int i2), (.int i1), (.int i0), (.int (3 : Int32)), (.int (0 : Int32)), (.ref b0)]) t → S0 t := fun t k => p0 t (by
   refine XT.iconstV X0.here hx rfl (0 : Int32) (hb hby d7_0) (by decide) ?_
   refine XS.istore X0.here hx rfl (hb hby d7_1) rfl (l' := Ls2) rfl ?_
   refine XS.iloadN X0.here hx rfl (hb hby d7_3) rfl ?_
   refine XS.istore X0.here hx rfl (hb hby d7_4) rfl (l' := Ls3) rfl ?_
   refine XS.iload X0.here hx rfl (hb hby d7_6) rfl ?_
   show St p e below s₁ (mkF m 8 Ls3 [(.int (0 : Int32))]) t
   refine XS.iload X0.here hx rfl (hb hby d7_8) rfl ?_
   refine XS.icmpNo X0.here hx rfl (hb hby d7_10) rfl (tlt (by decide : (0 : Int32) < (1 : Int32))).2.1 ?_
   refine XS.iload X0.here hx rfl (hb hby d7_13) rfl ?_
   refine XS.iload X0.here hx rfl (hb hby d7_15) rfl ?_
   refine XS.iadd X0.here hx rfl (hb hby d7_17) rfl ?_
   refine XT.iconstV X0.here hx rfl (1 : Int32) (hb hby d7_18) (by decide) ?_
   show St p e below s₁ (mkF m 19 Ls3 [(.int (1 : Int32)), (.int (1 : Int32))]) t
   refine XS.iushr X0.here hx rfl (hb hby d7_19) rfl ?_
   refine XS.istore X0.here hx rfl (hb hby d7_20) rfl (l' := Ls4) rfl ?_
   refine XS.aloadN X0.here hx rfl (hb hby d7_22) rfl rfl ?_
   refine XS.iload X0.here hx rfl (hb hby d7_23) rfl ?_
   refine XT.iconstV X0.here hx rfl (3 : Int32) (hb hby d7_25) (by decide) ?_
   refine XS.imul X0.here hx rfl (hb hby d7_26) rfl ?_
   show St p e below s₁ (mkF m 27 Ls4 [(.int (0 : Int32)), (.ref b0)]) t
   refine XT.iconstV X0.here hx rfl (3 : Int32) (hb hby d7_27) (by decide) ?_
   refine XS.iloadN X0.here hx rfl (hb hby d7_28) rfl ?_
   refine XS.iloadN X0.here hx rfl (hb hby d7_29) rfl ?_
   refine XS.iload X0.here hx rfl (hb hby d7_30) rfl ?_
   exact k)
 obtain ⟨_, _, ⟨Tc6, Lc6, kc6, nc6⟩, -, Xc6, ⟨Lcc6, hQc6, lc6, yc6, zc6⟩, stc6⟩ := Jvm.LawKit.callS X0 hx (y := M8) hown (mvT hZ (ww hw 54 rfl)) (mvT hZ (ww hw 55 rfl)) (mvT hZ (ww hw 2 rfl)) (mvT hZ (ww hw 56 rfl)) (by decide) (backOf (W := 0) (rm9_9 l Z a0 hw [] i0 i1 i2 i3 i4 i5 i6 i7 i8 i9 i10 i11 i12 i13 i14 b0 k1 h0 n0 O0  g_b0 f0 f1) hZ (ww hw 56 rfl) (ww hw 2 rfl) (by decide) (by decide)) (g := (mkF m 32 Ls4 [(.int i2), (.int i1), (.int i0), (.int (3 : Int32)), (.int (0 : Int32)), (.ref b0)])) rfl (by rw [hml]; rfl) (argsL := [(.ref b0), (.int (0 : Int32)), (.int (3 : Int32)), (.int i0), (.int i1), (.int i2)]) (rest := []) (lenOf pd7 rfl) rfl (by show 2 * 0 + _ ≤ _; exact Nat.le_of_eq rfl) (hb hby d7_32) (fun _ _ => ⟨rfl, e0, (by decide : 0 + 0 ≤ _), (by decide : 0 + 0 ≤ _)⟩)
 dsimp only [Pt.U, Pt.locs, Pt.cells, Pt.slots] at Xc6 lc6 yc6 zc6 stc6 hQc6
 subst lc6 yc6 zc6
 obtain ⟨Nqc6, ec6, hAc6⟩ := hQc6
 have Nc6 := Fr.app N0 Nqc6
 obtain rfl := hAc6
 have p7 : ∀ t, St p e below Tc6 (mkF m 35 Ls4 [(.int (own_cmp3 i3 i4 i5 i0 i1 i2))]) t → S0 t := fun t k => p5 t (stc6 t k)
 let Ls8 : Array Slot := #[.val (.ref b0), .val (.int (1 : Int32)), .val (.int i0), .val (.int i1), .val (.int i2), .val (.int (0 : Int32)), .val (.int (1 : Int32)), .val (.int (0 : Int32)), .val (.int (own_cmp3 i3 i4 i5 i0 i1 i2))]
 have p9 : ∀ t, St p e below Tc6 (mkF m 39 Ls8 [(.int (own_cmp3 i3 i4 i5 i0 i1 i2))]) t → S0 t := fun t k => p7 t (by
   refine XS.istore Xc6.here hx rfl (hb hby d7_35) rfl (l' := Ls8) rfl ?_
   refine XS.iload Xc6.here hx rfl (hb hby d7_37) rfl ?_
   exact k)
 by_cases g10 : (own_cmp3 i3 i4 i5 i0 i1 i2) < (0 : Int32)
 ·
  let Ls11 : Array Slot := #[.val (.ref b0), .val (.int (1 : Int32)), .val (.int i0), .val (.int i1), .val (.int i2), .val (.int (1 : Int32)), .val (.int (1 : Int32)), .val (.int (0 : Int32)), .val (.int (own_cmp3 i3 i4 i5 i0 i1 i2))]
  have p12 : ∀ t, St p e below Tc6 (mkF m 74 Ls11 [(.int (-2 : Int32))]) t → S0 t := fun t k => p9 t (by
    refine XS.ifNo Xc6.here hx rfl (hb hby d7_39) rfl ((if0 _ _).trans (tlt g10).2.1) ?_
    refine XS.iload Xc6.here hx rfl (hb hby d7_42) rfl ?_
    refine XT.iconstV Xc6.here hx rfl (1 : Int32) (hb hby d7_44) (by decide) ?_
    refine XS.iadd Xc6.here hx rfl (hb hby d7_45) rfl ?_
    refine XS.istore Xc6.here hx rfl (hb hby d7_46) rfl (l' := Ls11) rfl ?_
    show St p e below Tc6 (mkF m 48 Ls11 []) t
    refine XS.goto Xc6.here hx rfl (pc0 := 48) (pc' := 66) rfl (hb hby d7_48) (by decide) (by decide) ?_
    refine XS.goto Xc6.here hx rfl (pc0 := 66) (pc' := 6) rfl (hb hby d7_66) (by decide) (by decide) ?_
    refine XS.iload Xc6.here hx rfl (hb hby d7_6) rfl ?_
    refine XS.iload Xc6.here hx rfl (hb hby d7_8) rfl ?_
    refine XS.icmpYes Xc6.here hx rfl (pc0 := 10) (pc' := 69) rfl (hb hby d7_10) rfl (flt (by decide : ¬ ((1 : Int32) < (1 : Int32)))).2.1 (by decide) (by decide) ?_
    refine XS.iload Xc6.here hx rfl (hb hby d7_69) rfl ?_
    show St p e below Tc6 (mkF m 71 Ls11 [(.int (1 : Int32))]) t
    refine XS.ineg Xc6.here hx rfl (hb hby d7_71) rfl ?_
    refine XT.iconstV Xc6.here hx rfl (1 : Int32) (hb hby d7_72) (by decide) ?_
    refine XS.isub Xc6.here hx rfl (hb hby d7_73) rfl ?_
    exact k)
  obtain ⟨fs, hr, hrun, hended, hW, hsame⟩ := Xc6.leave (v := some (.int (-2 : Int32))) (fun h => by rw [Bd.returns] at h; cases h)
  refine ⟨_, _, p12 _ ?_, hrun, hended, _, _, rfl, ?_, ⟨_, rfl⟩, hW, hsame.mono (by decide) (by decide)⟩
  · exact retOut Xc6 hx Bd.returns rfl (Or.inl ⟨rfl, by simp, _, rfl⟩) (hb hby d7_74) hr
  · show Q7_8 Z i0 i1 i2 i3 i4 i5 i6 i7 i8 i9 i10 i11 i12 i13 i14 b0 k1 h0 n0 _ Tc6.heap _
    exact ⟨Nc6, ec6, (Or.inl ⟨rfl, g10⟩)⟩
 ·
  have p13 : ∀ t, St p e below Tc6 (mkF m 53 Ls8 [(.int (own_cmp3 i3 i4 i5 i0 i1 i2))]) t → S0 t := fun t k => p9 t (by
    refine XS.ifYes Xc6.here hx rfl (pc0 := 39) (pc' := 51) rfl (hb hby d7_39) rfl ((if0 _ _).trans (flt g10).2.1) (by decide) (by decide) ?_
    refine XS.iload Xc6.here hx rfl (hb hby d7_51) rfl ?_
    exact k)
  by_cases g14 : (0 : Int32) < (own_cmp3 i3 i4 i5 i0 i1 i2)
  ·
   let Ls15 : Array Slot := #[.val (.ref b0), .val (.int (1 : Int32)), .val (.int i0), .val (.int i1), .val (.int i2), .val (.int (0 : Int32)), .val (.int (0 : Int32)), .val (.int (0 : Int32)), .val (.int (own_cmp3 i3 i4 i5 i0 i1 i2))]
   have p16 : ∀ t, St p e below Tc6 (mkF m 74 Ls15 [(.int (-1 : Int32))]) t → S0 t := fun t k => p13 t (by
     refine XS.ifNo Xc6.here hx rfl (hb hby d7_53) rfl ((if0 _ _).trans (tlt g14).2.2.2) ?_
     refine XS.iload Xc6.here hx rfl (hb hby d7_56) rfl ?_
     refine XS.istore Xc6.here hx rfl (hb hby d7_58) rfl (l' := Ls15) rfl ?_
     refine XS.goto Xc6.here hx rfl (pc0 := 60) (pc' := 66) rfl (hb hby d7_60) (by decide) (by decide) ?_
     refine XS.goto Xc6.here hx rfl (pc0 := 66) (pc' := 6) rfl (hb hby d7_66) (by decide) (by decide) ?_
     show St p e below Tc6 (mkF m 6 Ls15 []) t
     refine XS.iload Xc6.here hx rfl (hb hby d7_6) rfl ?_
     refine XS.iload Xc6.here hx rfl (hb hby d7_8) rfl ?_
     refine XS.icmpYes Xc6.here hx rfl (pc0 := 10) (pc' := 69) rfl (hb hby d7_10) rfl (flt (by decide : ¬ ((0 : Int32) < (0 : Int32)))).2.1 (by decide) (by decide) ?_
     refine XS.iload Xc6.here hx rfl (hb hby d7_69) rfl ?_
     refine XS.ineg Xc6.here hx rfl (hb hby d7_71) rfl ?_
     refine XT.iconstV Xc6.here hx rfl (1 : Int32) (hb hby d7_72) (by decide) ?_
     show St p e below Tc6 (mkF m 73 Ls15 [(.int (1 : Int32)), (.int (0 : Int32))]) t
     refine XS.isub Xc6.here hx rfl (hb hby d7_73) rfl ?_
     exact k)
   obtain ⟨fs, hr, hrun, hended, hW, hsame⟩ := Xc6.leave (v := some (.int (-1 : Int32))) (fun h => by rw [Bd.returns] at h; cases h)
   refine ⟨_, _, p16 _ ?_, hrun, hended, _, _, rfl, ?_, ⟨_, rfl⟩, hW, hsame.mono (by decide) (by decide)⟩
   · exact retOut Xc6 hx Bd.returns rfl (Or.inl ⟨rfl, by simp, _, rfl⟩) (hb hby d7_74) hr
   · show Q7_8 Z i0 i1 i2 i3 i4 i5 i6 i7 i8 i9 i10 i11 i12 i13 i14 b0 k1 h0 n0 _ Tc6.heap _
     exact ⟨Nc6, ec6, (Or.inr (Or.inl ⟨rfl, g10, g14⟩))⟩
  ·
   have p17 : ∀ t, St p e below Tc6 (mkF m 65 Ls8 [(.int (0 : Int32))]) t → S0 t := fun t k => p13 t (by
     refine XS.ifYes Xc6.here hx rfl (pc0 := 53) (pc' := 63) rfl (hb hby d7_53) rfl ((if0 _ _).trans (flt g14).2.2.2) (by decide) (by decide) ?_
     refine XS.iload Xc6.here hx rfl (hb hby d7_63) rfl ?_
     exact k)
   obtain ⟨fs, hr, hrun, hended, hW, hsame⟩ := Xc6.leave (v := some (.int (0 : Int32))) (fun h => by rw [Bd.returns] at h; cases h)
   refine ⟨_, _, p17 _ ?_, hrun, hended, _, _, rfl, ?_, ⟨_, rfl⟩, hW, hsame.mono (by decide) (by decide)⟩
   · exact retOut Xc6 hx Bd.returns rfl (Or.inl ⟨rfl, by simp, _, rfl⟩) (hb hby d7_65) hr
   · show Q7_8 Z i0 i1 i2 i3 i4 i5 i6 i7 i8 i9 i10 i11 i12 i13 i14 b0 k1 h0 n0 _ Tc6.heap _
     exact ⟨Nc6, ec6, (Or.inr (Or.inr (⟨rfl, g10, g14⟩)))⟩
theorem d3_56 : decode prog_155_method_6_code 56 = .ok (.iconst 0, 1) := by decide +kernel
theorem d3_57 : decode prog_155_method_6_code 57 = .ok (.ireturn, 1) := by decide +kernel
def Q3_7 (Z : State) (i0 : Int32) (i1 : Int32) (i2 : Int32) (i3 : Int32) (i4 : Int32) (b0 : Addr) (b1 : Addr) (b2 : Addr) (b3 : Addr) (b4 : Addr) (k5 : ClassId) (k6 : ClassId) (k7 : ClassId) (k8 : ClassId) (h0 : Heap) (n0 : Nat) (v : Option Value) (h : Heap) (L : List Loc) : Prop := Fr n0 L ∧ ((v = some (.int (1 : Int32)) ∧ Keep h0 h [b4, b2, b0] ∧ Exa Z h b0 "com/example/quadrille/quadrille/store/SortedTriples" ∧ Fld Z h b0 "com/example/quadrille/quadrille/store/SortedTriples" "blocks" "[[I" (.ref b1) ∧ Fld Z h b0 "com/example/quadrille/quadrille/store/SortedTriples" "counts" "[I" (.ref b2) ∧ Fld Z h b0 "com/example/quadrille/quadrille/store/SortedTriples" "owned" "[Z" (.ref b3) ∧ Fld Z h b0 "com/example/quadrille/quadrille/store/SortedTriples" "shared" "Z" (.int (0 : Int32)) ∧ Fld Z h b0 "com/example/quadrille/quadrille/store/SortedTriples" "blockCount" "I" (.int (1 : Int32)) ∧ Fld Z h b0 "com/example/quadrille/quadrille/store/SortedTriples" "size" "J" (.long (2 : Int64)) ∧ Arv Z h b2 k6 .int (4 : Int32) [(.int (2 : Int32)), (.int (0 : Int32)), (.int (0 : Int32)), (.int (0 : Int32))] (.int (0 : Int32)) ∧ Exa Z h b2 "[I" ∧ Arv Z h b4 k8 .int (12 : Int32) [(.int i2), (.int i3), (.int i4), (.int i0), (.int i1), (.int i2), (.int (0 : Int32)), (.int (0 : Int32)), (.int (0 : Int32)), (.int (0 : Int32)), (.int (0 : Int32)), (.int (0 : Int32))] (.int (0 : Int32)) ∧ Exa Z h b4 "[I" ∧ (own_cmp3 i2 i3 i4 i0 i1 i2) < (0 : Int32)) ∨ (v = some (.int (1 : Int32)) ∧ Keep h0 h [b4, b2, b0] ∧ Exa Z h b0 "com/example/quadrille/quadrille/store/SortedTriples" ∧ Fld Z h b0 "com/example/quadrille/quadrille/store/SortedTriples" "blocks" "[[I" (.ref b1) ∧ Fld Z h b0 "com/example/quadrille/quadrille/store/SortedTriples" "counts" "[I" (.ref b2) ∧ Fld Z h b0 "com/example/quadrille/quadrille/store/SortedTriples" "owned" "[Z" (.ref b3) ∧ Fld Z h b0 "com/example/quadrille/quadrille/store/SortedTriples" "shared" "Z" (.int (0 : Int32)) ∧ Fld Z h b0 "com/example/quadrille/quadrille/store/SortedTriples" "blockCount" "I" (.int (1 : Int32)) ∧ Fld Z h b0 "com/example/quadrille/quadrille/store/SortedTriples" "size" "J" (.long (2 : Int64)) ∧ Arv Z h b2 k6 .int (4 : Int32) [(.int (2 : Int32)), (.int (0 : Int32)), (.int (0 : Int32)), (.int (0 : Int32))] (.int (0 : Int32)) ∧ Exa Z h b2 "[I" ∧ Arv Z h b4 k8 .int (12 : Int32) [(.int i0), (.int i1), (.int i2), (.int i2), (.int i3), (.int i4), (.int (0 : Int32)), (.int (0 : Int32)), (.int (0 : Int32)), (.int (0 : Int32)), (.int (0 : Int32)), (.int (0 : Int32))] (.int (0 : Int32)) ∧ Exa Z h b4 "[I" ∧ ¬ ((own_cmp3 i2 i3 i4 i0 i1 i2) < (0 : Int32)) ∧ (0 : Int32) < (own_cmp3 i2 i3 i4 i0 i1 i2)) ∨ (v = some (.int (0 : Int32)) ∧ Keep h0 h [b4, b2, b0] ∧ Exa Z h b0 "com/example/quadrille/quadrille/store/SortedTriples" ∧ Fld Z h b0 "com/example/quadrille/quadrille/store/SortedTriples" "blocks" "[[I" (.ref b1) ∧ Fld Z h b0 "com/example/quadrille/quadrille/store/SortedTriples" "counts" "[I" (.ref b2) ∧ Fld Z h b0 "com/example/quadrille/quadrille/store/SortedTriples" "owned" "[Z" (.ref b3) ∧ Fld Z h b0 "com/example/quadrille/quadrille/store/SortedTriples" "shared" "Z" (.int (0 : Int32)) ∧ Fld Z h b0 "com/example/quadrille/quadrille/store/SortedTriples" "blockCount" "I" (.int (1 : Int32)) ∧ Fld Z h b0 "com/example/quadrille/quadrille/store/SortedTriples" "size" "J" (.long (1 : Int64)) ∧ Arv Z h b2 k6 .int (4 : Int32) [(.int (1 : Int32)), (.int (0 : Int32)), (.int (0 : Int32)), (.int (0 : Int32))] (.int (0 : Int32)) ∧ Exa Z h b2 "[I" ∧ Arv Z h b4 k8 .int (12 : Int32) [(.int i2), (.int i3), (.int i4), (.int (0 : Int32)), (.int (0 : Int32)), (.int (0 : Int32)), (.int (0 : Int32)), (.int (0 : Int32)), (.int (0 : Int32)), (.int (0 : Int32)), (.int (0 : Int32)), (.int (0 : Int32))] (.int (0 : Int32)) ∧ Exa Z h b4 "[I" ∧ ¬ ((own_cmp3 i2 i3 i4 i0 i1 i2) < (0 : Int32)) ∧ ¬ ((0 : Int32) < (own_cmp3 i2 i3 i4 i0 i1 i2))))
set_option maxRecDepth 65536 in
set_option maxHeartbeats 40000000 in
theorem rm3_7 (l : Launch) (Z : State) (a0 : Array Value) (hw : ∀ d ∈ tables_1, d.before a0 Z = true) (ws : List Jvm.Cond) (i0 : Int32) (i1 : Int32) (i2 : Int32) (i3 : Int32) (i4 : Int32) (b0 : Addr) (b1 : Addr) (b2 : Addr) (b3 : Addr) (b4 : Addr) (k5 : ClassId) (k6 : ClassId) (k7 : ClassId) (k8 : ClassId) (h0 : Heap) (n0 : Nat) (O0 : Old Z n0 h0)  (g_b0 : n0 ≤ b0) (g_b1 : n0 ≤ b1) (g_b2 : n0 ≤ b2) (g_b3 : n0 ≤ b3) (g_b4 : n0 ≤ b4) (ne_b0_b1 : b0 ≠ b1) (ne_b0_b2 : b0 ≠ b2) (ne_b0_b3 : b0 ≠ b3) (ne_b0_b4 : b0 ≠ b4) (ne_b1_b2 : b1 ≠ b2) (ne_b1_b3 : b1 ≠ b3) (ne_b1_b4 : b1 ≠ b4) (ne_b2_b3 : b2 ≠ b3) (ne_b2_b4 : b2 ≠ b4) (ne_b3_b4 : b3 ≠ b4) (f0 : Exa Z h0 b0 "com/example/quadrille/quadrille/store/SortedTriples") (f1 : Fld Z h0 b0 "com/example/quadrille/quadrille/store/SortedTriples" "blocks" "[[I" (.ref b1)) (f2 : Fld Z h0 b0 "com/example/quadrille/quadrille/store/SortedTriples" "counts" "[I" (.ref b2)) (f3 : Fld Z h0 b0 "com/example/quadrille/quadrille/store/SortedTriples" "owned" "[Z" (.ref b3)) (f4 : Fld Z h0 b0 "com/example/quadrille/quadrille/store/SortedTriples" "shared" "Z" (.int (0 : Int32))) (f5 : Fld Z h0 b0 "com/example/quadrille/quadrille/store/SortedTriples" "blockCount" "I" (.int (1 : Int32))) (f6 : Fld Z h0 b0 "com/example/quadrille/quadrille/store/SortedTriples" "size" "J" (.long (1 : Int64))) (f7 : Arv Z h0 b1 k5 (.array .int) (4 : Int32) [(.ref b4), .null, .null, .null] .null) (f8 : Exa Z h0 b1 "[[I") (f9 : OvrA Z k5 .int "[I") (f10 : Arv Z h0 b2 k6 .int (4 : Int32) [(.int (1 : Int32)), (.int (0 : Int32)), (.int (0 : Int32)), (.int (0 : Int32))] (.int (0 : Int32))) (f11 : Exa Z h0 b2 "[I") (f12 : Arv Z h0 b3 k7 .boolean (4 : Int32) [(.int (1 : Int32)), (.int (0 : Int32)), (.int (0 : Int32)), (.int (0 : Int32))] (.int (0 : Int32))) (f13 : Exa Z h0 b3 "[Z") (f14 : Arv Z h0 b4 k8 .int (12 : Int32) [(.int i2), (.int i3), (.int i4), (.int (0 : Int32)), (.int (0 : Int32)), (.int (0 : Int32)), (.int (0 : Int32)), (.int (0 : Int32)), (.int (0 : Int32)), (.int (0 : Int32)), (.int (0 : Int32)), (.int (0 : Int32))] (.int (0 : Int32))) (f15 : Exa Z h0 b4 "[I") :
    MetFree l M6 (head1 (Jvm.Cond.code M6 prog_155_method_6_code 8 (some .boolean) :: ws) ({ frames := 3, cells := 0, slots := 0, locals := 51 } : Room)) (fun a U => a = #[(.ref b0), (.int i0), (.int i1), (.int i2)] ∧ Z.Warmed39 U.vm ∧ U.heap = h0) (fun _ _ _ _ _ => True) (fun _ U o U' => ∃ v L, o = .returned v ∧ Q3_7 Z i0 i1 i2 i3 i4 b0 b1 b2 b3 b4 k5 k6 k7 k8 h0 n0 v U'.heap L ∧ FrameEnd U o U' L ({ frames := 3, cells := 0, slots := 0, locals := 51 } : Room).cells ({ frames := 3, cells := 0, slots := 0, locals := 51 } : Room).slots) := by
 refine MetFree.of_bodySF (plainFor_of_name pn1) hisR ?_
 intro p e s m args below meth c s₁ Bd hml0 hP hK
 obtain ⟨rfl, hZ, hh⟩ := hP
 have hx := Bd.exec
 have hby := Bd.bytes
 have hml : c.maxLocals = 8 := hml0
 have hown : s.vm.findClass "com/example/quadrille/quadrille/store/SortedTriples" = some m.cls := findClass_of_methodNamed Bd.named
 have hnm := (name_of_methodNamed Bd.named Bd.method).1
 have X0 : Stand p l e ({ frames := 3, cells := 0, slots := 0, locals := 51 } : Room) s m #[(.ref b0), (.int i0), (.int i1), (.int i2)] below meth c s₁ [] 0 0 := Stand.of_body Bd
 have e0 : s₁.heap = h0 := by rw [← hh, Bd.state]; rfl
 have N0 := Fr.nil n0
 let S0 : State → Prop := fun t => Steps p.tables e below (s₁.setTop (entryFrame m #[(.ref b0), (.int i0), (.int i1), (.int i2)] 8)) t
 let Ls1 : Array Slot := #[.val (.ref b0), .val (.int i0), .val (.int i1), .val (.int i2), .unset, .unset, .unset, .unset]
 have p0 : ∀ t, St p e below s₁ (mkF m 0 Ls1 []) t → S0 t := fun t k => castTop (ef2 m b0 i0 i1 i2) k
 have p2 : ∀ t, St p e below s₁ (mkF m 1 Ls1 [(.ref b0)]) t → S0 t := fun t k => p0 t (by
   refine XS.aloadN X0.here hx rfl (hb hby d3_0) rfl rfl ?_
   exact k)
 obtain ⟨cqc3, qc3, qc3'⟩ := f0.cell
 obtain ⟨_, _, ⟨Tc3, Lc3, kc3, nc3⟩, -, Xc3, ⟨Lcc3, hQc3, lc3, yc3, zc3⟩, stc3⟩ := X0.privateBack hx (y := M1) hown (mvT hZ (ww hw 24 rfl)) (mvT hZ (ww hw 25 rfl)) (mvT hZ (own_sel (y := M1) (ww hw 1 rfl) (ww hw 26 rfl) (ww hw 25 rfl) (by decide))) (Cond.privateMethod_at (mvP hZ (ww hw 26 rfl) (args := #[]))) (mvT hZ (ww hw 27 rfl)) (by decide) (backOf (W := 0) (rm4_2 l Z a0 hw [] b0 h0 n0 O0  g_b0 f0 f4) hZ (ww hw 27 rfl) (ww hw 2 rfl) (by decide) (by decide)) (g := (mkF m 1 Ls1 [(.ref b0)])) rfl (by rw [hml]; rfl) (Steps.refl _) (a := b0) (by rw [e0]; exact qc3) qc3' (argsL := []) (rest := []) (lenOf pd0 rfl) rfl (by show 2 * 0 + _ ≤ _; exact Nat.le_of_eq rfl) (hb hby d3_1) (fun _ _ => ⟨rfl, e0, (by decide : 0 + 0 ≤ _), (by decide : 0 + 0 ≤ _)⟩)
 dsimp only [Pt.U, Pt.locs, Pt.cells, Pt.slots] at Xc3 lc3 yc3 zc3 stc3 hQc3
 subst lc3 yc3 zc3
 obtain ⟨Nqc3, ec3, hAc3⟩ := hQc3
 have Nc3 := Fr.app N0 Nqc3
 obtain rfl := hAc3
 have p4 : ∀ t, St p e below Tc3 (mkF m 4 Ls1 []) t → S0 t := fun t k => p2 t (stc3.trans k)
 have p5 : ∀ t, St p e below Tc3 (mkF m 5 Ls1 [(.ref b0)]) t → S0 t := fun t k => p4 t (by
   refine XS.aloadN Xc3.here hx rfl (hb hby d3_4) rfl rfl ?_
   exact k)
 obtain ⟨T6, X6, e6, st6⟩ := getF Xc3 hx hZ hown (host := "") (Or.inl (ww hw 30 rfl)) Via.refl ec3 f5 (g := (mkF m 5 Ls1 [(.ref b0)])) rfl rfl (hb hby d3_5)
 have p7 : ∀ t, St p e below T6 (mkF m 8 Ls1 [(.int (1 : Int32))]) t → S0 t := fun t k => p5 t (st6 t k)
 have p8 : ∀ t, St p e below T6 (mkF m 24 Ls1 [(.int i2), (.int i1), (.int i0), (.ref b0)]) t → S0 t := fun t k => p7 t (by
   refine XS.ifYes X6.here hx rfl (pc0 := 8) (pc' := 20) rfl (hb hby d3_8) rfl ((if0 _ _).trans (feq (by decide : ¬ ((1 : Int32) = (0 : Int32)))).2) (by decide) (by decide) ?_
   refine XS.aloadN X6.here hx rfl (hb hby d3_20) rfl rfl ?_
   refine XS.iloadN X6.here hx rfl (hb hby d3_21) rfl ?_
   refine XS.iloadN X6.here hx rfl (hb hby d3_22) rfl ?_
   refine XS.iloadN X6.here hx rfl (hb hby d3_23) rfl ?_
   exact k)
 obtain ⟨cqc9, qc9, qc9'⟩ := f0.cell
 obtain ⟨_, _, ⟨Tc9, Lc9, kc9, nc9⟩, -, Xc9, ⟨Lcc9, hQc9, lc9, yc9, zc9⟩, stc9⟩ := X6.privateBack hx (y := M3) hown (mvT hZ (ww hw 41 rfl)) (mvT hZ (ww hw 42 rfl)) (mvT hZ (own_sel (y := M3) (ww hw 1 rfl) (ww hw 43 rfl) (ww hw 42 rfl) (by decide))) (Cond.privateMethod_at (mvP hZ (ww hw 43 rfl) (args := #[]))) (mvT hZ (ww hw 44 rfl)) (by decide) (backOf (W := 0) (rm6_4 l Z a0 hw [] i0 i1 i2 b0 h0 n0 O0  g_b0 f0 f5) hZ (ww hw 44 rfl) (ww hw 2 rfl) (by decide) (by decide)) (g := (mkF m 24 Ls1 [(.int i2), (.int i1), (.int i0), (.ref b0)])) rfl (by rw [hml]; rfl) (Steps.refl _) (a := b0) (by rw [e6]; exact qc9) qc9' (argsL := [(.int i0), (.int i1), (.int i2)]) (rest := []) (lenOf pd2 rfl) rfl (by show 2 * 0 + _ ≤ _; exact Nat.le_of_eq rfl) (hb hby d3_24) (fun _ _ => ⟨rfl, e6, (by decide : 0 + 0 ≤ _), (by decide : 0 + 0 ≤ _)⟩)
 dsimp only [Pt.U, Pt.locs, Pt.cells, Pt.slots] at Xc9 lc9 yc9 zc9 stc9 hQc9
 subst lc9 yc9 zc9
 obtain ⟨Nqc9, ec9, hAc9⟩ := hQc9
 have Nc9 := Fr.app Nc3 Nqc9
 obtain rfl := hAc9
 have p10 : ∀ t, St p e below Tc9 (mkF m 27 Ls1 [(.int (0 : Int32))]) t → S0 t := fun t k => p8 t (stc9.trans k)
 let Ls11 : Array Slot := #[.val (.ref b0), .val (.int i0), .val (.int i1), .val (.int i2), .val (.int (0 : Int32)), .unset, .unset, .unset]
 have p12 : ∀ t, St p e below Tc9 (mkF m 30 Ls11 [(.ref b0)]) t → S0 t := fun t k => p10 t (by
   refine XS.istore Xc9.here hx rfl (hb hby d3_27) rfl (l' := Ls11) rfl ?_
   refine XS.aloadN Xc9.here hx rfl (hb hby d3_29) rfl rfl ?_
   exact k)
 obtain ⟨T13, X13, e13, st13⟩ := getF Xc9 hx hZ hown (host := "") (Or.inl (ww hw 11 rfl)) Via.refl ec9 f1 (g := (mkF m 30 Ls11 [(.ref b0)])) rfl rfl (hb hby d3_30)
 have p14 : ∀ t, St p e below T13 (mkF m 33 Ls11 [(.ref b1)]) t → S0 t := fun t k => p12 t (st13 t k)
 have p15 : ∀ t, St p e below T13 (mkF m 35 Ls11 [(.int (0 : Int32)), (.ref b1)]) t → S0 t := fun t k => p14 t (by
   refine XS.iload X13.here hx rfl (hb hby d3_33) rfl ?_
   exact k)
 obtain ⟨cl16, Ar16, -, Sz16, -, Hs16, -⟩ := id f7
 have hin16 : ¬ ((0 : Int32) < 0 ∨ cl16.slots.size ≤ (0 : Int32).toNatClampNeg) := inb_of Sz16 ⟨by decide, by decide⟩
 have hat16 : cl16.slots[(0 : Int32).toNatClampNeg]? = some (.ref b4) := Hs16.at hin16 rfl
 have p17 : ∀ t, St p e below T13 (mkF m 37 Ls11 [(.ref b0), (.ref b4)]) t → S0 t := fun t k => p15 t (by
   refine X13.aaload hx (j := (0 : Int32)) (v := (.ref b4)) (by rw [e13]; exact Ar16.1) (State.isArrayOf_alike hZ.alike Ar16.2.1) rfl Ar16.2.2 hin16 hat16 (g := (mkF m 35 Ls11 [(.int (0 : Int32)), (.ref b1)])) rfl rfl (hb hby d3_35) _ ?_
   refine XS.aloadN X13.here hx rfl (hb hby d3_36) rfl rfl ?_
   exact k)
 obtain ⟨T18, X18, e18, st18⟩ := getF X13 hx hZ hown (host := "") (Or.inl (ww hw 14 rfl)) Via.refl e13 f2 (g := (mkF m 37 Ls11 [(.ref b0), (.ref b4)])) rfl rfl (hb hby d3_37)
 have p19 : ∀ t, St p e below T18 (mkF m 40 Ls11 [(.ref b2), (.ref b4)]) t → S0 t := fun t k => p17 t (st18 t k)
 have p20 : ∀ t, St p e below T18 (mkF m 42 Ls11 [(.int (0 : Int32)), (.ref b2), (.ref b4)]) t → S0 t := fun t k => p19 t (by
   refine XS.iload X18.here hx rfl (hb hby d3_40) rfl ?_
   exact k)
 obtain ⟨cl21, Ar21, -, Sz21, -, Hs21, -⟩ := id f10
 have hin21 : ¬ ((0 : Int32) < 0 ∨ cl21.slots.size ≤ (0 : Int32).toNatClampNeg) := inb_of Sz21 ⟨by decide, by decide⟩
 have hat21 : cl21.slots[(0 : Int32).toNatClampNeg]? = some (.int (1 : Int32)) := Hs21.at hin21 rfl
 have p22 : ∀ t, St p e below T18 (mkF m 46 Ls11 [(.int i2), (.int i1), (.int i0), (.int (1 : Int32)), (.ref b4)]) t → S0 t := fun t k => p20 t (by
   refine X18.iaload hx (j := (0 : Int32)) (v := (.int (1 : Int32))) (by rw [e18]; exact Ar21.1) (State.isArrayOf_alike hZ.alike Ar21.2.1) Ar21.2.2 hin21 hat21 (g := (mkF m 42 Ls11 [(.int (0 : Int32)), (.ref b2), (.ref b4)])) rfl rfl (hb hby d3_42) _ ?_
   refine XS.iloadN X18.here hx rfl (hb hby d3_43) rfl ?_
   refine XS.iloadN X18.here hx rfl (hb hby d3_44) rfl ?_
   refine XS.iloadN X18.here hx rfl (hb hby d3_45) rfl ?_
   exact k)
 obtain ⟨_, _, ⟨Tc23, Lc23, kc23, nc23⟩, -, Xc23, ⟨Lcc23, hQc23, lc23, yc23, zc23⟩, stc23⟩ := Jvm.LawKit.callS X18 hx (y := M4) hown (mvT hZ (ww hw 45 rfl)) (mvT hZ (ww hw 46 rfl)) (mvT hZ (ww hw 2 rfl)) (mvT hZ (ww hw 47 rfl)) (by decide) (backOf (W := 0) (rm7_8 l Z a0 hw [] i0 i1 i2 i2 i3 i4 (0 : Int32) (0 : Int32) (0 : Int32) (0 : Int32) (0 : Int32) (0 : Int32) (0 : Int32) (0 : Int32) (0 : Int32) b4 k8 h0 n0 O0  g_b4 f14 f15) hZ (ww hw 47 rfl) (ww hw 2 rfl) (by decide) (by decide)) (g := (mkF m 46 Ls11 [(.int i2), (.int i1), (.int i0), (.int (1 : Int32)), (.ref b4)])) rfl (by rw [hml]; rfl) (argsL := [(.ref b4), (.int (1 : Int32)), (.int i0), (.int i1), (.int i2)]) (rest := []) (lenOf pd3 rfl) rfl (by show 2 * 0 + _ ≤ _; exact Nat.le_of_eq rfl) (hb hby d3_46) (fun _ _ => ⟨rfl, e18, (by decide : 0 + 0 ≤ _), (by decide : 0 + 0 ≤ _)⟩)
 dsimp only [Pt.U, Pt.locs, Pt.cells, Pt.slots] at Xc23 lc23 yc23 zc23 stc23 hQc23
 subst lc23 yc23 zc23
 obtain ⟨Nqc23, ec23, hAc23⟩ := hQc23
 have Nc23 := Fr.app Nc9 Nqc23
 rcases hAc23 with ⟨rfl, g24⟩ | ⟨rfl, g25, g26⟩ | ⟨rfl, g27, g28⟩
 ·
  have p29 : ∀ t, St p e below Tc23 (mkF m 49 Ls11 [(.int (-2 : Int32))]) t → S0 t := fun t k => p22 t (stc23 t k)
  let Ls30 : Array Slot := #[.val (.ref b0), .val (.int i0), .val (.int i1), .val (.int i2), .val (.int (0 : Int32)), .val (.int (-2 : Int32)), .unset, .unset]
  let Ls31 : Array Slot := #[.val (.ref b0), .val (.int i0), .val (.int i1), .val (.int i2), .val (.int (0 : Int32)), .val (.int (1 : Int32)), .unset, .unset]
  have p32 : ∀ t, St p e below Tc23 (mkF m 66 Ls31 [(.ref b0)]) t → S0 t := fun t k => p29 t (by
    refine XS.istore Xc23.here hx rfl (hb hby d3_49) rfl (l' := Ls30) rfl ?_
    refine XS.iload Xc23.here hx rfl (hb hby d3_51) rfl ?_
    refine XS.ifYes Xc23.here hx rfl (pc0 := 53) (pc' := 58) rfl (hb hby d3_53) rfl ((if0 _ _).trans (tlt (by decide : (-2 : Int32) < (0 : Int32))).1) (by decide) (by decide) ?_
    refine XS.iload Xc23.here hx rfl (hb hby d3_58) rfl ?_
    refine XS.ineg Xc23.here hx rfl (hb hby d3_60) rfl ?_
    show St p e below Tc23 (mkF m 61 Ls30 [(.int (2 : Int32))]) t
    refine XT.iconstV Xc23.here hx rfl (1 : Int32) (hb hby d3_61) (by decide) ?_
    refine XS.isub Xc23.here hx rfl (hb hby d3_62) rfl ?_
    refine XS.istore Xc23.here hx rfl (hb hby d3_63) rfl (l' := Ls31) rfl ?_
    refine XS.aloadN Xc23.here hx rfl (hb hby d3_65) rfl rfl ?_
    exact k)
  obtain ⟨T33, X33, e33, st33⟩ := getF Xc23 hx hZ hown (host := "") (Or.inl (ww hw 14 rfl)) Via.refl ec23 f2 (g := (mkF m 66 Ls31 [(.ref b0)])) rfl rfl (hb hby d3_66)
  have p34 : ∀ t, St p e below T33 (mkF m 69 Ls31 [(.ref b2)]) t → S0 t := fun t k => p32 t (st33 t k)
  have p35 : ∀ t, St p e below T33 (mkF m 71 Ls31 [(.int (0 : Int32)), (.ref b2)]) t → S0 t := fun t k => p34 t (by
    refine XS.iload X33.here hx rfl (hb hby d3_69) rfl ?_
    exact k)
  obtain ⟨cl36, Ar36, -, Sz36, -, Hs36, -⟩ := id f10
  have hin36 : ¬ ((0 : Int32) < 0 ∨ cl36.slots.size ≤ (0 : Int32).toNatClampNeg) := inb_of Sz36 ⟨by decide, by decide⟩
  have hat36 : cl36.slots[(0 : Int32).toNatClampNeg]? = some (.int (1 : Int32)) := Hs36.at hin36 rfl
  have p37 : ∀ t, St p e below T33 (mkF m 142 Ls31 [(.ref b0)]) t → S0 t := fun t k => p35 t (by
    refine X33.iaload hx (j := (0 : Int32)) (v := (.int (1 : Int32))) (by rw [e33]; exact Ar36.1) (State.isArrayOf_alike hZ.alike Ar36.2.1) Ar36.2.2 hin36 hat36 (g := (mkF m 71 Ls31 [(.int (0 : Int32)), (.ref b2)])) rfl rfl (hb hby d3_71) _ ?_
    refine XT.sipushV X33.here hx rfl (256 : Int32) (hb hby d3_72) (by decide) ?_
    refine XS.icmpYes X33.here hx rfl (pc0 := 75) (pc' := 141) rfl (hb hby d3_75) rfl (feq (by decide : ¬ ((1 : Int32) = (256 : Int32)))).2 (by decide) (by decide) ?_
    refine XS.aloadN X33.here hx rfl (hb hby d3_141) rfl rfl ?_
    exact k)
  obtain ⟨T38, X38, e38, st38⟩ := getF X33 hx hZ hown (host := "") (Or.inl (ww hw 11 rfl)) Via.refl e33 f1 (g := (mkF m 142 Ls31 [(.ref b0)])) rfl rfl (hb hby d3_142)
  have p39 : ∀ t, St p e below T38 (mkF m 145 Ls31 [(.ref b1)]) t → S0 t := fun t k => p37 t (st38 t k)
  have p40 : ∀ t, St p e below T38 (mkF m 147 Ls31 [(.int (0 : Int32)), (.ref b1)]) t → S0 t := fun t k => p39 t (by
    refine XS.iload X38.here hx rfl (hb hby d3_145) rfl ?_
    exact k)
  obtain ⟨cl41, Ar41, -, Sz41, -, Hs41, -⟩ := id f7
  have hin41 : ¬ ((0 : Int32) < 0 ∨ cl41.slots.size ≤ (0 : Int32).toNatClampNeg) := inb_of Sz41 ⟨by decide, by decide⟩
  have hat41 : cl41.slots[(0 : Int32).toNatClampNeg]? = some (.ref b4) := Hs41.at hin41 rfl
  let Ls42 : Array Slot := #[.val (.ref b0), .val (.int i0), .val (.int i1), .val (.int i2), .val (.int (0 : Int32)), .val (.int (1 : Int32)), .val (.ref b4), .unset]
  have p43 : ∀ t, St p e below T38 (mkF m 151 Ls42 [(.ref b0)]) t → S0 t := fun t k => p40 t (by
    refine X38.aaload hx (j := (0 : Int32)) (v := (.ref b4)) (by rw [e38]; exact Ar41.1) (State.isArrayOf_alike hZ.alike Ar41.2.1) rfl Ar41.2.2 hin41 hat41 (g := (mkF m 147 Ls31 [(.int (0 : Int32)), (.ref b1)])) rfl rfl (hb hby d3_147) _ ?_
    refine XS.astore X38.here hx rfl (hb hby d3_148) rfl rfl (l' := Ls42) rfl ?_
    refine XS.aloadN X38.here hx rfl (hb hby d3_150) rfl rfl ?_
    exact k)
  obtain ⟨T44, X44, e44, st44⟩ := getF X38 hx hZ hown (host := "") (Or.inl (ww hw 14 rfl)) Via.refl e38 f2 (g := (mkF m 151 Ls42 [(.ref b0)])) rfl rfl (hb hby d3_151)
  have p45 : ∀ t, St p e below T44 (mkF m 154 Ls42 [(.ref b2)]) t → S0 t := fun t k => p43 t (st44 t k)
  have p46 : ∀ t, St p e below T44 (mkF m 156 Ls42 [(.int (0 : Int32)), (.ref b2)]) t → S0 t := fun t k => p45 t (by
    refine XS.iload X44.here hx rfl (hb hby d3_154) rfl ?_
    exact k)
  obtain ⟨cl47, Ar47, -, Sz47, -, Hs47, -⟩ := id f10
  have hin47 : ¬ ((0 : Int32) < 0 ∨ cl47.slots.size ≤ (0 : Int32).toNatClampNeg) := inb_of Sz47 ⟨by decide, by decide⟩
  have hat47 : cl47.slots[(0 : Int32).toNatClampNeg]? = some (.int (1 : Int32)) := Hs47.at hin47 rfl
  let Ls48 : Array Slot := #[.val (.ref b0), .val (.int i0), .val (.int i1), .val (.int i2), .val (.int (0 : Int32)), .val (.int (1 : Int32)), .val (.ref b4), .val (.int (1 : Int32))]
  have p49 : ∀ t, St p e below T44 (mkF m 165 Ls48 [(.ref b4), (.int (3 : Int32))]) t → S0 t := fun t k => p46 t (by
    refine X44.iaload hx (j := (0 : Int32)) (v := (.int (1 : Int32))) (by rw [e44]; exact Ar47.1) (State.isArrayOf_alike hZ.alike Ar47.2.1) Ar47.2.2 hin47 hat47 (g := (mkF m 156 Ls42 [(.int (0 : Int32)), (.ref b2)])) rfl rfl (hb hby d3_156) _ ?_
    refine XS.istore X44.here hx rfl (hb hby d3_157) rfl (l' := Ls48) rfl ?_
    refine XS.iload X44.here hx rfl (hb hby d3_159) rfl ?_
    refine XT.iconstV X44.here hx rfl (3 : Int32) (hb hby d3_161) (by decide) ?_
    refine XS.imul X44.here hx rfl (hb hby d3_162) rfl ?_
    show St p e below T44 (mkF m 163 Ls48 [(.int (3 : Int32))]) t
    refine XS.aload X44.here hx rfl (hb hby d3_163) rfl rfl ?_
    exact k)
  obtain ⟨cl50, Ar50, -, Sz50, Nn50, -, -⟩ := id f14
  have Ln50 : cl50.slots.size.toInt32 = (12 : Int32) := len_of Sz50 Nn50
  have p51 : ∀ t, St p e below T44 (mkF m 166 Ls48 [(.int (12 : Int32)), (.int (3 : Int32))]) t → S0 t := fun t k => p49 t (X44.arraylength hx (by rw [e44]; exact Ar50.1) (State.isArrayOf_alike hZ.alike Ar50.2.1) (g := (mkF m 165 Ls48 [(.ref b4), (.int (3 : Int32))])) rfl rfl (hb hby d3_165) t (by rw [Ln50]; exact k))
  have p52 : ∀ t, St p e below T44 (mkF m 210 Ls48 [(.int (0 : Int32)), (.ref b0)]) t → S0 t := fun t k => p51 t (by
    refine XS.icmpYes X44.here hx rfl (pc0 := 166) (pc' := 207) rfl (hb hby d3_166) rfl (feq (by decide : ¬ ((3 : Int32) = (12 : Int32)))).2 (by decide) (by decide) ?_
    refine XS.aloadN X44.here hx rfl (hb hby d3_207) rfl rfl ?_
    refine XS.iload X44.here hx rfl (hb hby d3_208) rfl ?_
    exact k)
  obtain ⟨cqc53, qc53, qc53'⟩ := f0.cell
  obtain ⟨_, _, ⟨Tc53, Lc53, kc53, nc53⟩, -, Xc53, ⟨Lcc53, hQc53, lc53, yc53, zc53⟩, stc53⟩ := X44.privateBack hx (y := M5) hown (mvT hZ (ww hw 48 rfl)) (mvT hZ (ww hw 49 rfl)) (mvT hZ (own_sel (y := M5) (ww hw 1 rfl) (ww hw 50 rfl) (ww hw 49 rfl) (by decide))) (Cond.privateMethod_at (mvP hZ (ww hw 50 rfl) (args := #[]))) (mvT hZ (ww hw 51 rfl)) (by decide) (backOf (W := 0) (rm8_6 l Z a0 hw [] b0 b1 b3 b4 k5 k7 h0 n0 O0  g_b0 g_b1 g_b3 g_b4 ne_b0_b1 ne_b0_b3 ne_b0_b4 ne_b1_b3 ne_b1_b4 ne_b3_b4 f0 f1 f3 f7 f8 f12 f13 f15) hZ (ww hw 51 rfl) (ww hw 2 rfl) (by decide) (by decide)) (g := (mkF m 210 Ls48 [(.int (0 : Int32)), (.ref b0)])) rfl (by rw [hml]; rfl) (Steps.refl _) (a := b0) (by rw [e44]; exact qc53) qc53' (argsL := [(.int (0 : Int32))]) (rest := []) (lenOf pd4 rfl) rfl (by show 2 * 0 + _ ≤ _; exact Nat.le_of_eq rfl) (hb hby d3_210) (fun _ _ => ⟨rfl, e44, (by decide : 0 + 0 ≤ _), (by decide : 0 + 0 ≤ _)⟩)
  dsimp only [Pt.U, Pt.locs, Pt.cells, Pt.slots] at Xc53 lc53 yc53 zc53 stc53 hQc53
  subst lc53 yc53 zc53
  obtain ⟨Nqc53, ec53, hAc53⟩ := hQc53
  have Nc53 := Fr.app Nc23 Nqc53
  obtain rfl := hAc53
  have p54 : ∀ t, St p e below Tc53 (mkF m 213 Ls48 [(.ref b4)]) t → S0 t := fun t k => p52 t (stc53.trans k)
  have p55 : ∀ t, St p e below Tc53 (mkF m 236 Ls48 [(.int (0 : Int32)), (.int (6 : Int32)), (.ref b4), (.int (3 : Int32)), (.ref b4)]) t → S0 t := fun t k => p54 t (by
    refine XS.astore Xc53.here hx rfl (hb hby d3_213) rfl rfl (l' := Ls48) rfl ?_
    refine XS.aload Xc53.here hx rfl (hb hby d3_215) rfl rfl ?_
    refine XS.iload Xc53.here hx rfl (hb hby d3_217) rfl ?_
    refine XT.iconstV Xc53.here hx rfl (3 : Int32) (hb hby d3_219) (by decide) ?_
    refine XS.imul Xc53.here hx rfl (hb hby d3_220) rfl ?_
    show St p e below Tc53 (mkF m 221 Ls48 [(.int (3 : Int32)), (.ref b4)]) t
    refine XS.aload Xc53.here hx rfl (hb hby d3_221) rfl rfl ?_
    refine XS.iload Xc53.here hx rfl (hb hby d3_223) rfl ?_
    refine XT.iconstV Xc53.here hx rfl (1 : Int32) (hb hby d3_225) (by decide) ?_
    refine XS.iadd Xc53.here hx rfl (hb hby d3_226) rfl ?_
    refine XT.iconstV Xc53.here hx rfl (3 : Int32) (hb hby d3_227) (by decide) ?_
    refine XS.imul Xc53.here hx rfl (hb hby d3_228) rfl ?_
    show St p e below Tc53 (mkF m 229 Ls48 [(.int (6 : Int32)), (.ref b4), (.int (3 : Int32)), (.ref b4)]) t
    refine XS.iload Xc53.here hx rfl (hb hby d3_229) rfl ?_
    refine XS.iload Xc53.here hx rfl (hb hby d3_231) rfl ?_
    refine XS.isub Xc53.here hx rfl (hb hby d3_233) rfl ?_
    refine XT.iconstV Xc53.here hx rfl (3 : Int32) (hb hby d3_234) (by decide) ?_
    refine XS.imul Xc53.here hx rfl (hb hby d3_235) rfl ?_
    exact k)
  obtain ⟨T56, h56, Lz56, X56, e56, N56, Kz56, Vz56, st56⟩ := cpA Xc53 hx hZ hown (ww hw 36 rfl) (ww hw 39 rfl) (ww hw 37 rfl) (ww hw 38 rfl) ec53 f14 f14 (Or.inl ⟨rfl, rfl⟩) (sp := (3 : Int32)) (dp := (6 : Int32)) (nn := (0 : Int32)) (by decide) (by decide) (by decide) (by decide) (by decide) (us := []) rfl (Nat.le_of_ble_eq_true rfl) Nc53 g_b4 (g := (mkF m 236 Ls48 [(.int (0 : Int32)), (.int (6 : Int32)), (.ref b4), (.int (3 : Int32)), (.ref b4)])) rfl (by rw [hml]; rfl) rfl (hb hby d3_236) (by decide) (W := 0) (by show 2 * 0 + _ ≤ _; exact Nat.le_of_eq rfl) (by decide)
  have E_57 := f0.keep Kz56
  have F_58 := f1.keep Kz56 (ninS ne_b0_b4 nin0)
  have F_59 := f2.keep Kz56 (ninS ne_b0_b4 nin0)
  have F_60 := f3.keep Kz56 (ninS ne_b0_b4 nin0)
  have F_61 := f4.keep Kz56 (ninS ne_b0_b4 nin0)
  have F_62 := f5.keep Kz56 (ninS ne_b0_b4 nin0)
  have F_63 := f6.keep Kz56 (ninS ne_b0_b4 nin0)
  have V_64 := f7.keep Kz56 (ninS ne_b1_b4 nin0)
  have E_65 := f8.keep Kz56
  have V_66 := f10.keep Kz56 (ninS ne_b2_b4 nin0)
  have E_67 := f11.keep Kz56
  have V_68 := f12.keep Kz56 (ninS ne_b3_b4 nin0)
  have E_69 := f13.keep Kz56
  have E_70 := f15.keep Kz56
  have V_71 : Arv Z h56 b4 k8 .int (12 : Int32) [(.int i2), (.int i3), (.int i4), (.int (0 : Int32)), (.int (0 : Int32)), (.int (0 : Int32)), (.int (0 : Int32)), (.int (0 : Int32)), (.int (0 : Int32)), (.int (0 : Int32)), (.int (0 : Int32)), (.int (0 : Int32))] (.int (0 : Int32)) := Vz56
  have O72 := O0.keep Kz56 (allS g_b4 all0)
  have K73 := Keep.trans (Keep.refl h0 [b4, b2, b0]) Kz56 (allS (Or.inl (List.mem_of_getElem? (i := 0) rfl)) all0)
  have p74 : ∀ t, St p e below T56 (mkF m 239 Ls48 []) t → S0 t := fun t k => p55 t (st56 t k)
  have p75 : ∀ t, St p e below T56 (mkF m 246 Ls48 [(.int i0), (.int (3 : Int32)), (.ref b4)]) t → S0 t := fun t k => p74 t (by
    refine XS.aload X56.here hx rfl (hb hby d3_239) rfl rfl ?_
    refine XS.iload X56.here hx rfl (hb hby d3_241) rfl ?_
    refine XT.iconstV X56.here hx rfl (3 : Int32) (hb hby d3_243) (by decide) ?_
    refine XS.imul X56.here hx rfl (hb hby d3_244) rfl ?_
    refine XS.iloadN X56.here hx rfl (hb hby d3_245) rfl ?_
    exact k)
  obtain ⟨cl76, Ar76, q76, Sz76, Nn76, Hs76, Gf76⟩ := id V_71
  have hin76 : ¬ ((3 : Int32) < 0 ∨ cl76.slots.size ≤ (3 : Int32).toNatClampNeg) := inb_of Sz76 ⟨by decide, by decide⟩
  obtain ⟨T76, h76, X76, e76, W76, st76⟩ := stI X56 hx hZ e56 Ar76 (j := (3 : Int32)) hin76 (g := (mkF m 246 Ls48 [(.int i0), (.int (3 : Int32)), (.ref b4)])) rfl rfl (hb hby d3_246)
  have E_77 := E_57.wr W76
  have F_78 := F_58.other W76 (Or.inl ne_b0_b4)
  have F_79 := F_59.other W76 (Or.inl ne_b0_b4)
  have F_80 := F_60.other W76 (Or.inl ne_b0_b4)
  have F_81 := F_61.other W76 (Or.inl ne_b0_b4)
  have F_82 := F_62.other W76 (Or.inl ne_b0_b4)
  have F_83 := F_63.other W76 (Or.inl ne_b0_b4)
  have V_84 := V_64.other W76 ne_b1_b4
  have E_85 := E_65.wr W76
  have V_86 := V_66.other W76 ne_b2_b4
  have E_87 := E_67.wr W76
  have V_88 := V_68.other W76 ne_b3_b4
  have E_89 := E_69.wr W76
  have E_90 := E_70.wr W76
  have O91 := O72.wr W76 g_b4
  have K92 := K73.wr W76 (Or.inl (List.mem_of_getElem? (i := 0) rfl))
  have V_93 : Arv Z h76 b4 k8 .int (12 : Int32) [(.int i2), (.int i3), (.int i4), (.int i0), (.int (0 : Int32)), (.int (0 : Int32)), (.int (0 : Int32)), (.int (0 : Int32)), (.int (0 : Int32)), (.int (0 : Int32)), (.int (0 : Int32)), (.int (0 : Int32))] (.int (0 : Int32)) := Arv.set Ar76 q76 Sz76 Nn76 Hs76 Gf76 rfl W76 3 rfl (Nat.le_of_ble_eq_true rfl)
  have N94 := Fr.snoc X76 N56 g_b4
  have p95 : ∀ t, St p e below T76 (mkF m 247 Ls48 []) t → S0 t := fun t k => p75 t (st76 t k)
  have p96 : ∀ t, St p e below T76 (mkF m 256 Ls48 [(.int i1), (.int (4 : Int32)), (.ref b4)]) t → S0 t := fun t k => p95 t (by
    refine XS.aload X76.here hx rfl (hb hby d3_247) rfl rfl ?_
    refine XS.iload X76.here hx rfl (hb hby d3_249) rfl ?_
    refine XT.iconstV X76.here hx rfl (3 : Int32) (hb hby d3_251) (by decide) ?_
    refine XS.imul X76.here hx rfl (hb hby d3_252) rfl ?_
    refine XT.iconstV X76.here hx rfl (1 : Int32) (hb hby d3_253) (by decide) ?_
    show St p e below T76 (mkF m 254 Ls48 [(.int (1 : Int32)), (.int (3 : Int32)), (.ref b4)]) t
    refine XS.iadd X76.here hx rfl (hb hby d3_254) rfl ?_
    refine XS.iloadN X76.here hx rfl (hb hby d3_255) rfl ?_
    exact k)
  obtain ⟨cl97, Ar97, q97, Sz97, Nn97, Hs97, Gf97⟩ := id V_93
  have hin97 : ¬ ((4 : Int32) < 0 ∨ cl97.slots.size ≤ (4 : Int32).toNatClampNeg) := inb_of Sz97 ⟨by decide, by decide⟩
  obtain ⟨T97, h97, X97, e97, W97, st97⟩ := stI X76 hx hZ e76 Ar97 (j := (4 : Int32)) hin97 (g := (mkF m 256 Ls48 [(.int i1), (.int (4 : Int32)), (.ref b4)])) rfl rfl (hb hby d3_256)
  have E_98 := E_77.wr W97
  have F_99 := F_78.other W97 (Or.inl ne_b0_b4)
  have F_100 := F_79.other W97 (Or.inl ne_b0_b4)
  have F_101 := F_80.other W97 (Or.inl ne_b0_b4)
  have F_102 := F_81.other W97 (Or.inl ne_b0_b4)
  have F_103 := F_82.other W97 (Or.inl ne_b0_b4)
  have F_104 := F_83.other W97 (Or.inl ne_b0_b4)
  have V_105 := V_84.other W97 ne_b1_b4
  have E_106 := E_85.wr W97
  have V_107 := V_86.other W97 ne_b2_b4
  have E_108 := E_87.wr W97
  have V_109 := V_88.other W97 ne_b3_b4
  have E_110 := E_89.wr W97
  have E_111 := E_90.wr W97
  have O112 := O91.wr W97 g_b4
  have K113 := K92.wr W97 (Or.inl (List.mem_of_getElem? (i := 0) rfl))
  have V_114 : Arv Z h97 b4 k8 .int (12 : Int32) [(.int i2), (.int i3), (.int i4), (.int i0), (.int i1), (.int (0 : Int32)), (.int (0 : Int32)), (.int (0 : Int32)), (.int (0 : Int32)), (.int (0 : Int32)), (.int (0 : Int32)), (.int (0 : Int32))] (.int (0 : Int32)) := Arv.set Ar97 q97 Sz97 Nn97 Hs97 Gf97 rfl W97 4 rfl (Nat.le_of_ble_eq_true rfl)
  have N115 := Fr.snoc X97 N94 g_b4
  have p116 : ∀ t, St p e below T97 (mkF m 257 Ls48 []) t → S0 t := fun t k => p96 t (st97 t k)
  have p117 : ∀ t, St p e below T97 (mkF m 266 Ls48 [(.int i2), (.int (5 : Int32)), (.ref b4)]) t → S0 t := fun t k => p116 t (by
    refine XS.aload X97.here hx rfl (hb hby d3_257) rfl rfl ?_
    refine XS.iload X97.here hx rfl (hb hby d3_259) rfl ?_
    refine XT.iconstV X97.here hx rfl (3 : Int32) (hb hby d3_261) (by decide) ?_
    refine XS.imul X97.here hx rfl (hb hby d3_262) rfl ?_
    refine XT.iconstV X97.here hx rfl (2 : Int32) (hb hby d3_263) (by decide) ?_
    show St p e below T97 (mkF m 264 Ls48 [(.int (2 : Int32)), (.int (3 : Int32)), (.ref b4)]) t
    refine XS.iadd X97.here hx rfl (hb hby d3_264) rfl ?_
    refine XS.iloadN X97.here hx rfl (hb hby d3_265) rfl ?_
    exact k)
  obtain ⟨cl118, Ar118, q118, Sz118, Nn118, Hs118, Gf118⟩ := id V_114
  have hin118 : ¬ ((5 : Int32) < 0 ∨ cl118.slots.size ≤ (5 : Int32).toNatClampNeg) := inb_of Sz118 ⟨by decide, by decide⟩
  obtain ⟨T118, h118, X118, e118, W118, st118⟩ := stI X97 hx hZ e97 Ar118 (j := (5 : Int32)) hin118 (g := (mkF m 266 Ls48 [(.int i2), (.int (5 : Int32)), (.ref b4)])) rfl rfl (hb hby d3_266)
  have E_119 := E_98.wr W118
  have F_120 := F_99.other W118 (Or.inl ne_b0_b4)
  have F_121 := F_100.other W118 (Or.inl ne_b0_b4)
  have F_122 := F_101.other W118 (Or.inl ne_b0_b4)
  have F_123 := F_102.other W118 (Or.inl ne_b0_b4)
  have F_124 := F_103.other W118 (Or.inl ne_b0_b4)
  have F_125 := F_104.other W118 (Or.inl ne_b0_b4)
  have V_126 := V_105.other W118 ne_b1_b4
  have E_127 := E_106.wr W118
  have V_128 := V_107.other W118 ne_b2_b4
  have E_129 := E_108.wr W118
  have V_130 := V_109.other W118 ne_b3_b4
  have E_131 := E_110.wr W118
  have E_132 := E_111.wr W118
  have O133 := O112.wr W118 g_b4
  have K134 := K113.wr W118 (Or.inl (List.mem_of_getElem? (i := 0) rfl))
  have V_135 : Arv Z h118 b4 k8 .int (12 : Int32) [(.int i2), (.int i3), (.int i4), (.int i0), (.int i1), (.int i2), (.int (0 : Int32)), (.int (0 : Int32)), (.int (0 : Int32)), (.int (0 : Int32)), (.int (0 : Int32)), (.int (0 : Int32))] (.int (0 : Int32)) := Arv.set Ar118 q118 Sz118 Nn118 Hs118 Gf118 rfl W118 5 rfl (Nat.le_of_ble_eq_true rfl)
  have N136 := Fr.snoc X118 N115 g_b4
  have p137 : ∀ t, St p e below T118 (mkF m 267 Ls48 []) t → S0 t := fun t k => p117 t (st118 t k)
  have p138 : ∀ t, St p e below T118 (mkF m 268 Ls48 [(.ref b0)]) t → S0 t := fun t k => p137 t (by
    refine XS.aloadN X118.here hx rfl (hb hby d3_267) rfl rfl ?_
    exact k)
  obtain ⟨T139, X139, e139, st139⟩ := getF X118 hx hZ hown (host := "") (Or.inl (ww hw 14 rfl)) Via.refl e118 F_121 (g := (mkF m 268 Ls48 [(.ref b0)])) rfl rfl (hb hby d3_268)
  have p140 : ∀ t, St p e below T139 (mkF m 271 Ls48 [(.ref b2)]) t → S0 t := fun t k => p138 t (st139 t k)
  have p141 : ∀ t, St p e below T139 (mkF m 274 Ls48 [(.int (0 : Int32)), (.ref b2), (.int (0 : Int32)), (.ref b2)]) t → S0 t := fun t k => p140 t (by
    refine XS.iload X139.here hx rfl (hb hby d3_271) rfl ?_
    show St p e below T139 (mkF m 273 Ls48 [(.int (0 : Int32)), (.ref b2)]) t
    jvm_step X139.here [X139.here.top, hx, (hb hby d3_273), Value.category]
    exact k)
  obtain ⟨cl142, Ar142, -, Sz142, -, Hs142, -⟩ := id V_128
  have hin142 : ¬ ((0 : Int32) < 0 ∨ cl142.slots.size ≤ (0 : Int32).toNatClampNeg) := inb_of Sz142 ⟨by decide, by decide⟩
  have hat142 : cl142.slots[(0 : Int32).toNatClampNeg]? = some (.int (1 : Int32)) := Hs142.at hin142 rfl
  have p143 : ∀ t, St p e below T139 (mkF m 277 Ls48 [(.int (2 : Int32)), (.int (0 : Int32)), (.ref b2)]) t → S0 t := fun t k => p141 t (by
    refine X139.iaload hx (j := (0 : Int32)) (v := (.int (1 : Int32))) (by rw [e139]; exact Ar142.1) (State.isArrayOf_alike hZ.alike Ar142.2.1) Ar142.2.2 hin142 hat142 (g := (mkF m 274 Ls48 [(.int (0 : Int32)), (.ref b2), (.int (0 : Int32)), (.ref b2)])) rfl rfl (hb hby d3_274) _ ?_
    refine XT.iconstV X139.here hx rfl (1 : Int32) (hb hby d3_275) (by decide) ?_
    refine XS.iadd X139.here hx rfl (hb hby d3_276) rfl ?_
    exact k)
  obtain ⟨cl144, Ar144, q144, Sz144, Nn144, Hs144, Gf144⟩ := id V_128
  have hin144 : ¬ ((0 : Int32) < 0 ∨ cl144.slots.size ≤ (0 : Int32).toNatClampNeg) := inb_of Sz144 ⟨by decide, by decide⟩
  obtain ⟨T144, h144, X144, e144, W144, st144⟩ := stI X139 hx hZ e139 Ar144 (j := (0 : Int32)) hin144 (g := (mkF m 277 Ls48 [(.int (2 : Int32)), (.int (0 : Int32)), (.ref b2)])) rfl rfl (hb hby d3_277)
  have E_145 := E_119.wr W144
  have F_146 := F_120.other W144 (Or.inl ne_b0_b2)
  have F_147 := F_121.other W144 (Or.inl ne_b0_b2)
  have F_148 := F_122.other W144 (Or.inl ne_b0_b2)
  have F_149 := F_123.other W144 (Or.inl ne_b0_b2)
  have F_150 := F_124.other W144 (Or.inl ne_b0_b2)
  have F_151 := F_125.other W144 (Or.inl ne_b0_b2)
  have V_152 := V_126.other W144 ne_b1_b2
  have E_153 := E_127.wr W144
  have E_154 := E_129.wr W144
  have V_155 := V_130.other W144 (Ne.symm ne_b2_b3)
  have E_156 := E_131.wr W144
  have V_157 := V_135.other W144 (Ne.symm ne_b2_b4)
  have E_158 := E_132.wr W144
  have O159 := O133.wr W144 g_b2
  have K160 := K134.wr W144 (Or.inl (List.mem_of_getElem? (i := 1) rfl))
  have V_161 : Arv Z h144 b2 k6 .int (4 : Int32) [(.int (2 : Int32)), (.int (0 : Int32)), (.int (0 : Int32)), (.int (0 : Int32))] (.int (0 : Int32)) := Arv.set Ar144 q144 Sz144 Nn144 Hs144 Gf144 rfl W144 0 rfl (Nat.le_of_ble_eq_true rfl)
  have N162 := Fr.snoc X144 N136 g_b2
  have p163 : ∀ t, St p e below T144 (mkF m 278 Ls48 []) t → S0 t := fun t k => p143 t (st144 t k)
  have p164 : ∀ t, St p e below T144 (mkF m 280 Ls48 [(.ref b0), (.ref b0)]) t → S0 t := fun t k => p163 t (by
    refine XS.aloadN X144.here hx rfl (hb hby d3_278) rfl rfl ?_
    refine XS.dup X144.here hx rfl (hb hby d3_279) rfl rfl ?_
    exact k)
  obtain ⟨T165, X165, e165, st165⟩ := getF X144 hx hZ hown (host := "") (Or.inl (ww hw 52 rfl)) Via.refl e144 F_151 (g := (mkF m 280 Ls48 [(.ref b0), (.ref b0)])) rfl rfl (hb hby d3_280)
  have p166 : ∀ t, St p e below T165 (mkF m 283 Ls48 [(.long (1 : Int64)), (.ref b0)]) t → S0 t := fun t k => p164 t (st165 t k)
  have p167 : ∀ t, St p e below T165 (mkF m 285 Ls48 [(.long (2 : Int64)), (.ref b0)]) t → S0 t := fun t k => p166 t (by
    refine XT.lconstV X165.here hx rfl (1 : Int64) (hb hby d3_283) (by decide) ?_
    refine XS.ladd X165.here hx rfl (hb hby d3_284) rfl ?_
    exact k)
  obtain ⟨T168, h168, X168, e168, W168, st168⟩ := putF X165 hx hZ hown (host := "") (Or.inl (ww hw 52 rfl)) Via.refl e165 F_151 E_145 (Or.inl (ww hw 53 rfl)) (ww hw 1 rfl) (ty := .long) (by decide) rfl rfl (g := (mkF m 285 Ls48 [(.long (2 : Int64)), (.ref b0)])) rfl rfl (hb hby d3_285)
  have E_169 := E_145.wr W168
  have F_170 := F_146.other W168 (Or.inr (sn20 hw))
  have F_171 := F_147.other W168 (Or.inr (sn21 hw))
  have F_172 := F_148.other W168 (Or.inr (sn22 hw))
  have F_173 := F_149.other W168 (Or.inr (sn23 hw))
  have F_174 := F_150.other W168 (Or.inr (sn24 hw))
  have V_175 := V_152.other W168 (Ne.symm ne_b0_b1)
  have E_176 := E_153.wr W168
  have V_177 := V_161.other W168 (Ne.symm ne_b0_b2)
  have E_178 := E_154.wr W168
  have V_179 := V_155.other W168 (Ne.symm ne_b0_b3)
  have E_180 := E_156.wr W168
  have V_181 := V_157.other W168 (Ne.symm ne_b0_b4)
  have E_182 := E_158.wr W168
  have O183 := O159.wr W168 g_b0
  have K184 := K160.wr W168 (Or.inl (List.mem_of_getElem? (i := 2) rfl))
  have F_185 : Fld Z h168 b0 "com/example/quadrille/quadrille/store/SortedTriples" "size" "J" (.long (2 : Int64)) := F_151.same W168
  have N186 := Fr.snoc X168 N162 g_b0
  have p187 : ∀ t, St p e below T168 (mkF m 288 Ls48 []) t → S0 t := fun t k => p167 t (st168 t k)
  have p188 : ∀ t, St p e below T168 (mkF m 289 Ls48 [(.int (1 : Int32))]) t → S0 t := fun t k => p187 t (by
    refine XT.iconstV X168.here hx rfl (1 : Int32) (hb hby d3_288) (by decide) ?_
    exact k)
  obtain ⟨fs, hr, hrun, hended, hW, hsame⟩ := X168.leave (v := some (.int (1 : Int32))) (fun h => by rw [Bd.returns] at h; cases h)
  refine ⟨_, _, p188 _ ?_, hrun, hended, _, _, rfl, ?_, ⟨_, rfl⟩, hW, hsame.mono (by decide) (by decide)⟩
  · exact retOut X168 hx Bd.returns rfl (Or.inl ⟨rfl, by simp, _, rfl⟩) (hb hby d3_289) hr
  · show Q3_7 Z i0 i1 i2 i3 i4 b0 b1 b2 b3 b4 k5 k6 k7 k8 h0 n0 _ T168.heap _
    rw [e168]
    exact ⟨N186, (Or.inl ⟨rfl, K184, E_169, F_170, F_171, F_172, F_173, F_174, F_185, V_177, E_178, V_181, E_182, g24⟩)⟩
 ·
  have p189 : ∀ t, St p e below Tc23 (mkF m 49 Ls11 [(.int (-1 : Int32))]) t → S0 t := fun t k => p22 t (stc23 t k)
  let Ls190 : Array Slot := #[.val (.ref b0), .val (.int i0), .val (.int i1), .val (.int i2), .val (.int (0 : Int32)), .val (.int (-1 : Int32)), .unset, .unset]
  let Ls191 : Array Slot := #[.val (.ref b0), .val (.int i0), .val (.int i1), .val (.int i2), .val (.int (0 : Int32)), .val (.int (0 : Int32)), .unset, .unset]
  have p192 : ∀ t, St p e below Tc23 (mkF m 66 Ls191 [(.ref b0)]) t → S0 t := fun t k => p189 t (by
    refine XS.istore Xc23.here hx rfl (hb hby d3_49) rfl (l' := Ls190) rfl ?_
    refine XS.iload Xc23.here hx rfl (hb hby d3_51) rfl ?_
    refine XS.ifYes Xc23.here hx rfl (pc0 := 53) (pc' := 58) rfl (hb hby d3_53) rfl ((if0 _ _).trans (tlt (by decide : (-1 : Int32) < (0 : Int32))).1) (by decide) (by decide) ?_
    refine XS.iload Xc23.here hx rfl (hb hby d3_58) rfl ?_
    refine XS.ineg Xc23.here hx rfl (hb hby d3_60) rfl ?_
    show St p e below Tc23 (mkF m 61 Ls190 [(.int (1 : Int32))]) t
    refine XT.iconstV Xc23.here hx rfl (1 : Int32) (hb hby d3_61) (by decide) ?_
    refine XS.isub Xc23.here hx rfl (hb hby d3_62) rfl ?_
    refine XS.istore Xc23.here hx rfl (hb hby d3_63) rfl (l' := Ls191) rfl ?_
    refine XS.aloadN Xc23.here hx rfl (hb hby d3_65) rfl rfl ?_
    exact k)
  obtain ⟨T193, X193, e193, st193⟩ := getF Xc23 hx hZ hown (host := "") (Or.inl (ww hw 14 rfl)) Via.refl ec23 f2 (g := (mkF m 66 Ls191 [(.ref b0)])) rfl rfl (hb hby d3_66)
  have p194 : ∀ t, St p e below T193 (mkF m 69 Ls191 [(.ref b2)]) t → S0 t := fun t k => p192 t (st193 t k)
  have p195 : ∀ t, St p e below T193 (mkF m 71 Ls191 [(.int (0 : Int32)), (.ref b2)]) t → S0 t := fun t k => p194 t (by
    refine XS.iload X193.here hx rfl (hb hby d3_69) rfl ?_
    exact k)
  obtain ⟨cl196, Ar196, -, Sz196, -, Hs196, -⟩ := id f10
  have hin196 : ¬ ((0 : Int32) < 0 ∨ cl196.slots.size ≤ (0 : Int32).toNatClampNeg) := inb_of Sz196 ⟨by decide, by decide⟩
  have hat196 : cl196.slots[(0 : Int32).toNatClampNeg]? = some (.int (1 : Int32)) := Hs196.at hin196 rfl
  have p197 : ∀ t, St p e below T193 (mkF m 142 Ls191 [(.ref b0)]) t → S0 t := fun t k => p195 t (by
    refine X193.iaload hx (j := (0 : Int32)) (v := (.int (1 : Int32))) (by rw [e193]; exact Ar196.1) (State.isArrayOf_alike hZ.alike Ar196.2.1) Ar196.2.2 hin196 hat196 (g := (mkF m 71 Ls191 [(.int (0 : Int32)), (.ref b2)])) rfl rfl (hb hby d3_71) _ ?_
    refine XT.sipushV X193.here hx rfl (256 : Int32) (hb hby d3_72) (by decide) ?_
    refine XS.icmpYes X193.here hx rfl (pc0 := 75) (pc' := 141) rfl (hb hby d3_75) rfl (feq (by decide : ¬ ((1 : Int32) = (256 : Int32)))).2 (by decide) (by decide) ?_
    refine XS.aloadN X193.here hx rfl (hb hby d3_141) rfl rfl ?_
    exact k)
  obtain ⟨T198, X198, e198, st198⟩ := getF X193 hx hZ hown (host := "") (Or.inl (ww hw 11 rfl)) Via.refl e193 f1 (g := (mkF m 142 Ls191 [(.ref b0)])) rfl rfl (hb hby d3_142)
  have p199 : ∀ t, St p e below T198 (mkF m 145 Ls191 [(.ref b1)]) t → S0 t := fun t k => p197 t (st198 t k)
  have p200 : ∀ t, St p e below T198 (mkF m 147 Ls191 [(.int (0 : Int32)), (.ref b1)]) t → S0 t := fun t k => p199 t (by
    refine XS.iload X198.here hx rfl (hb hby d3_145) rfl ?_
    exact k)
  obtain ⟨cl201, Ar201, -, Sz201, -, Hs201, -⟩ := id f7
  have hin201 : ¬ ((0 : Int32) < 0 ∨ cl201.slots.size ≤ (0 : Int32).toNatClampNeg) := inb_of Sz201 ⟨by decide, by decide⟩
  have hat201 : cl201.slots[(0 : Int32).toNatClampNeg]? = some (.ref b4) := Hs201.at hin201 rfl
  let Ls202 : Array Slot := #[.val (.ref b0), .val (.int i0), .val (.int i1), .val (.int i2), .val (.int (0 : Int32)), .val (.int (0 : Int32)), .val (.ref b4), .unset]
  have p203 : ∀ t, St p e below T198 (mkF m 151 Ls202 [(.ref b0)]) t → S0 t := fun t k => p200 t (by
    refine X198.aaload hx (j := (0 : Int32)) (v := (.ref b4)) (by rw [e198]; exact Ar201.1) (State.isArrayOf_alike hZ.alike Ar201.2.1) rfl Ar201.2.2 hin201 hat201 (g := (mkF m 147 Ls191 [(.int (0 : Int32)), (.ref b1)])) rfl rfl (hb hby d3_147) _ ?_
    refine XS.astore X198.here hx rfl (hb hby d3_148) rfl rfl (l' := Ls202) rfl ?_
    refine XS.aloadN X198.here hx rfl (hb hby d3_150) rfl rfl ?_
    exact k)
  obtain ⟨T204, X204, e204, st204⟩ := getF X198 hx hZ hown (host := "") (Or.inl (ww hw 14 rfl)) Via.refl e198 f2 (g := (mkF m 151 Ls202 [(.ref b0)])) rfl rfl (hb hby d3_151)
  have p205 : ∀ t, St p e below T204 (mkF m 154 Ls202 [(.ref b2)]) t → S0 t := fun t k => p203 t (st204 t k)
  have p206 : ∀ t, St p e below T204 (mkF m 156 Ls202 [(.int (0 : Int32)), (.ref b2)]) t → S0 t := fun t k => p205 t (by
    refine XS.iload X204.here hx rfl (hb hby d3_154) rfl ?_
    exact k)
  obtain ⟨cl207, Ar207, -, Sz207, -, Hs207, -⟩ := id f10
  have hin207 : ¬ ((0 : Int32) < 0 ∨ cl207.slots.size ≤ (0 : Int32).toNatClampNeg) := inb_of Sz207 ⟨by decide, by decide⟩
  have hat207 : cl207.slots[(0 : Int32).toNatClampNeg]? = some (.int (1 : Int32)) := Hs207.at hin207 rfl
  let Ls208 : Array Slot := #[.val (.ref b0), .val (.int i0), .val (.int i1), .val (.int i2), .val (.int (0 : Int32)), .val (.int (0 : Int32)), .val (.ref b4), .val (.int (1 : Int32))]
  have p209 : ∀ t, St p e below T204 (mkF m 165 Ls208 [(.ref b4), (.int (3 : Int32))]) t → S0 t := fun t k => p206 t (by
    refine X204.iaload hx (j := (0 : Int32)) (v := (.int (1 : Int32))) (by rw [e204]; exact Ar207.1) (State.isArrayOf_alike hZ.alike Ar207.2.1) Ar207.2.2 hin207 hat207 (g := (mkF m 156 Ls202 [(.int (0 : Int32)), (.ref b2)])) rfl rfl (hb hby d3_156) _ ?_
    refine XS.istore X204.here hx rfl (hb hby d3_157) rfl (l' := Ls208) rfl ?_
    refine XS.iload X204.here hx rfl (hb hby d3_159) rfl ?_
    refine XT.iconstV X204.here hx rfl (3 : Int32) (hb hby d3_161) (by decide) ?_
    refine XS.imul X204.here hx rfl (hb hby d3_162) rfl ?_
    show St p e below T204 (mkF m 163 Ls208 [(.int (3 : Int32))]) t
    refine XS.aload X204.here hx rfl (hb hby d3_163) rfl rfl ?_
    exact k)
  obtain ⟨cl210, Ar210, -, Sz210, Nn210, -, -⟩ := id f14
  have Ln210 : cl210.slots.size.toInt32 = (12 : Int32) := len_of Sz210 Nn210
  have p211 : ∀ t, St p e below T204 (mkF m 166 Ls208 [(.int (12 : Int32)), (.int (3 : Int32))]) t → S0 t := fun t k => p209 t (X204.arraylength hx (by rw [e204]; exact Ar210.1) (State.isArrayOf_alike hZ.alike Ar210.2.1) (g := (mkF m 165 Ls208 [(.ref b4), (.int (3 : Int32))])) rfl rfl (hb hby d3_165) t (by rw [Ln210]; exact k))
  have p212 : ∀ t, St p e below T204 (mkF m 210 Ls208 [(.int (0 : Int32)), (.ref b0)]) t → S0 t := fun t k => p211 t (by
    refine XS.icmpYes X204.here hx rfl (pc0 := 166) (pc' := 207) rfl (hb hby d3_166) rfl (feq (by decide : ¬ ((3 : Int32) = (12 : Int32)))).2 (by decide) (by decide) ?_
    refine XS.aloadN X204.here hx rfl (hb hby d3_207) rfl rfl ?_
    refine XS.iload X204.here hx rfl (hb hby d3_208) rfl ?_
    exact k)
  obtain ⟨cqc213, qc213, qc213'⟩ := f0.cell
  obtain ⟨_, _, ⟨Tc213, Lc213, kc213, nc213⟩, -, Xc213, ⟨Lcc213, hQc213, lc213, yc213, zc213⟩, stc213⟩ := X204.privateBack hx (y := M5) hown (mvT hZ (ww hw 48 rfl)) (mvT hZ (ww hw 49 rfl)) (mvT hZ (own_sel (y := M5) (ww hw 1 rfl) (ww hw 50 rfl) (ww hw 49 rfl) (by decide))) (Cond.privateMethod_at (mvP hZ (ww hw 50 rfl) (args := #[]))) (mvT hZ (ww hw 51 rfl)) (by decide) (backOf (W := 0) (rm8_6 l Z a0 hw [] b0 b1 b3 b4 k5 k7 h0 n0 O0  g_b0 g_b1 g_b3 g_b4 ne_b0_b1 ne_b0_b3 ne_b0_b4 ne_b1_b3 ne_b1_b4 ne_b3_b4 f0 f1 f3 f7 f8 f12 f13 f15) hZ (ww hw 51 rfl) (ww hw 2 rfl) (by decide) (by decide)) (g := (mkF m 210 Ls208 [(.int (0 : Int32)), (.ref b0)])) rfl (by rw [hml]; rfl) (Steps.refl _) (a := b0) (by rw [e204]; exact qc213) qc213' (argsL := [(.int (0 : Int32))]) (rest := []) (lenOf pd4 rfl) rfl (by show 2 * 0 + _ ≤ _; exact Nat.le_of_eq rfl) (hb hby d3_210) (fun _ _ => ⟨rfl, e204, (by decide : 0 + 0 ≤ _), (by decide : 0 + 0 ≤ _)⟩)
  dsimp only [Pt.U, Pt.locs, Pt.cells, Pt.slots] at Xc213 lc213 yc213 zc213 stc213 hQc213
  subst lc213 yc213 zc213
  obtain ⟨Nqc213, ec213, hAc213⟩ := hQc213
  have Nc213 := Fr.app Nc23 Nqc213
  obtain rfl := hAc213
  have p214 : ∀ t, St p e below Tc213 (mkF m 213 Ls208 [(.ref b4)]) t → S0 t := fun t k => p212 t (stc213.trans k)
  have p215 : ∀ t, St p e below Tc213 (mkF m 236 Ls208 [(.int (3 : Int32)), (.int (3 : Int32)), (.ref b4), (.int (0 : Int32)), (.ref b4)]) t → S0 t := fun t k => p214 t (by
    refine XS.astore Xc213.here hx rfl (hb hby d3_213) rfl rfl (l' := Ls208) rfl ?_
    refine XS.aload Xc213.here hx rfl (hb hby d3_215) rfl rfl ?_
    refine XS.iload Xc213.here hx rfl (hb hby d3_217) rfl ?_
    refine XT.iconstV Xc213.here hx rfl (3 : Int32) (hb hby d3_219) (by decide) ?_
    refine XS.imul Xc213.here hx rfl (hb hby d3_220) rfl ?_
    show St p e below Tc213 (mkF m 221 Ls208 [(.int (0 : Int32)), (.ref b4)]) t
    refine XS.aload Xc213.here hx rfl (hb hby d3_221) rfl rfl ?_
    refine XS.iload Xc213.here hx rfl (hb hby d3_223) rfl ?_
    refine XT.iconstV Xc213.here hx rfl (1 : Int32) (hb hby d3_225) (by decide) ?_
    refine XS.iadd Xc213.here hx rfl (hb hby d3_226) rfl ?_
    refine XT.iconstV Xc213.here hx rfl (3 : Int32) (hb hby d3_227) (by decide) ?_
    refine XS.imul Xc213.here hx rfl (hb hby d3_228) rfl ?_
    show St p e below Tc213 (mkF m 229 Ls208 [(.int (3 : Int32)), (.ref b4), (.int (0 : Int32)), (.ref b4)]) t
    refine XS.iload Xc213.here hx rfl (hb hby d3_229) rfl ?_
    refine XS.iload Xc213.here hx rfl (hb hby d3_231) rfl ?_
    refine XS.isub Xc213.here hx rfl (hb hby d3_233) rfl ?_
    refine XT.iconstV Xc213.here hx rfl (3 : Int32) (hb hby d3_234) (by decide) ?_
    refine XS.imul Xc213.here hx rfl (hb hby d3_235) rfl ?_
    exact k)
  obtain ⟨T216, h216, Lz216, X216, e216, N216, Kz216, Vz216, st216⟩ := cpA Xc213 hx hZ hown (ww hw 36 rfl) (ww hw 39 rfl) (ww hw 37 rfl) (ww hw 38 rfl) ec213 f14 f14 (Or.inl ⟨rfl, rfl⟩) (sp := (0 : Int32)) (dp := (3 : Int32)) (nn := (3 : Int32)) (by decide) (by decide) (by decide) (by decide) (by decide) (us := [(.int i2), (.int i3), (.int i4)]) rfl (Nat.le_of_ble_eq_true rfl) Nc213 g_b4 (g := (mkF m 236 Ls208 [(.int (3 : Int32)), (.int (3 : Int32)), (.ref b4), (.int (0 : Int32)), (.ref b4)])) rfl (by rw [hml]; rfl) rfl (hb hby d3_236) (by decide) (W := 0) (by show 2 * 0 + _ ≤ _; exact Nat.le_of_eq rfl) (by decide)
  have E_217 := f0.keep Kz216
  have F_218 := f1.keep Kz216 (ninS ne_b0_b4 nin0)
  have F_219 := f2.keep Kz216 (ninS ne_b0_b4 nin0)
  have F_220 := f3.keep Kz216 (ninS ne_b0_b4 nin0)
  have F_221 := f4.keep Kz216 (ninS ne_b0_b4 nin0)
  have F_222 := f5.keep Kz216 (ninS ne_b0_b4 nin0)
  have F_223 := f6.keep Kz216 (ninS ne_b0_b4 nin0)
  have V_224 := f7.keep Kz216 (ninS ne_b1_b4 nin0)
  have E_225 := f8.keep Kz216
  have V_226 := f10.keep Kz216 (ninS ne_b2_b4 nin0)
  have E_227 := f11.keep Kz216
  have V_228 := f12.keep Kz216 (ninS ne_b3_b4 nin0)
  have E_229 := f13.keep Kz216
  have E_230 := f15.keep Kz216
  have V_231 : Arv Z h216 b4 k8 .int (12 : Int32) [(.int i2), (.int i3), (.int i4), (.int i2), (.int i3), (.int i4), (.int (0 : Int32)), (.int (0 : Int32)), (.int (0 : Int32)), (.int (0 : Int32)), (.int (0 : Int32)), (.int (0 : Int32))] (.int (0 : Int32)) := Vz216
  have O232 := O0.keep Kz216 (allS g_b4 all0)
  have K233 := Keep.trans (Keep.refl h0 [b4, b2, b0]) Kz216 (allS (Or.inl (List.mem_of_getElem? (i := 0) rfl)) all0)
  have p234 : ∀ t, St p e below T216 (mkF m 239 Ls208 []) t → S0 t := fun t k => p215 t (st216 t k)
  have p235 : ∀ t, St p e below T216 (mkF m 246 Ls208 [(.int i0), (.int (0 : Int32)), (.ref b4)]) t → S0 t := fun t k => p234 t (by
    refine XS.aload X216.here hx rfl (hb hby d3_239) rfl rfl ?_
    refine XS.iload X216.here hx rfl (hb hby d3_241) rfl ?_
    refine XT.iconstV X216.here hx rfl (3 : Int32) (hb hby d3_243) (by decide) ?_
    refine XS.imul X216.here hx rfl (hb hby d3_244) rfl ?_
    refine XS.iloadN X216.here hx rfl (hb hby d3_245) rfl ?_
    exact k)
  obtain ⟨cl236, Ar236, q236, Sz236, Nn236, Hs236, Gf236⟩ := id V_231
  have hin236 : ¬ ((0 : Int32) < 0 ∨ cl236.slots.size ≤ (0 : Int32).toNatClampNeg) := inb_of Sz236 ⟨by decide, by decide⟩
  obtain ⟨T236, h236, X236, e236, W236, st236⟩ := stI X216 hx hZ e216 Ar236 (j := (0 : Int32)) hin236 (g := (mkF m 246 Ls208 [(.int i0), (.int (0 : Int32)), (.ref b4)])) rfl rfl (hb hby d3_246)
  have E_237 := E_217.wr W236
  have F_238 := F_218.other W236 (Or.inl ne_b0_b4)
  have F_239 := F_219.other W236 (Or.inl ne_b0_b4)
  have F_240 := F_220.other W236 (Or.inl ne_b0_b4)
  have F_241 := F_221.other W236 (Or.inl ne_b0_b4)
  have F_242 := F_222.other W236 (Or.inl ne_b0_b4)
  have F_243 := F_223.other W236 (Or.inl ne_b0_b4)
  have V_244 := V_224.other W236 ne_b1_b4
  have E_245 := E_225.wr W236
  have V_246 := V_226.other W236 ne_b2_b4
  have E_247 := E_227.wr W236
  have V_248 := V_228.other W236 ne_b3_b4
  have E_249 := E_229.wr W236
  have E_250 := E_230.wr W236
  have O251 := O232.wr W236 g_b4
  have K252 := K233.wr W236 (Or.inl (List.mem_of_getElem? (i := 0) rfl))
  have V_253 : Arv Z h236 b4 k8 .int (12 : Int32) [(.int i0), (.int i3), (.int i4), (.int i2), (.int i3), (.int i4), (.int (0 : Int32)), (.int (0 : Int32)), (.int (0 : Int32)), (.int (0 : Int32)), (.int (0 : Int32)), (.int (0 : Int32))] (.int (0 : Int32)) := Arv.set Ar236 q236 Sz236 Nn236 Hs236 Gf236 rfl W236 0 rfl (Nat.le_of_ble_eq_true rfl)
  have N254 := Fr.snoc X236 N216 g_b4
  have p255 : ∀ t, St p e below T236 (mkF m 247 Ls208 []) t → S0 t := fun t k => p235 t (st236 t k)
  have p256 : ∀ t, St p e below T236 (mkF m 256 Ls208 [(.int i1), (.int (1 : Int32)), (.ref b4)]) t → S0 t := fun t k => p255 t (by
    refine XS.aload X236.here hx rfl (hb hby d3_247) rfl rfl ?_
    refine XS.iload X236.here hx rfl (hb hby d3_249) rfl ?_
    refine XT.iconstV X236.here hx rfl (3 : Int32) (hb hby d3_251) (by decide) ?_
    refine XS.imul X236.here hx rfl (hb hby d3_252) rfl ?_
    refine XT.iconstV X236.here hx rfl (1 : Int32) (hb hby d3_253) (by decide) ?_
    show St p e below T236 (mkF m 254 Ls208 [(.int (1 : Int32)), (.int (0 : Int32)), (.ref b4)]) t
    refine XS.iadd X236.here hx rfl (hb hby d3_254) rfl ?_
    refine XS.iloadN X236.here hx rfl (hb hby d3_255) rfl ?_
    exact k)
  obtain ⟨cl257, Ar257, q257, Sz257, Nn257, Hs257, Gf257⟩ := id V_253
  have hin257 : ¬ ((1 : Int32) < 0 ∨ cl257.slots.size ≤ (1 : Int32).toNatClampNeg) := inb_of Sz257 ⟨by decide, by decide⟩
  obtain ⟨T257, h257, X257, e257, W257, st257⟩ := stI X236 hx hZ e236 Ar257 (j := (1 : Int32)) hin257 (g := (mkF m 256 Ls208 [(.int i1), (.int (1 : Int32)), (.ref b4)])) rfl rfl (hb hby d3_256)
  have E_258 := E_237.wr W257
  have F_259 := F_238.other W257 (Or.inl ne_b0_b4)
  have F_260 := F_239.other W257 (Or.inl ne_b0_b4)
  have F_261 := F_240.other W257 (Or.inl ne_b0_b4)
  have F_262 := F_241.other W257 (Or.inl ne_b0_b4)
  have F_263 := F_242.other W257 (Or.inl ne_b0_b4)
  have F_264 := F_243.other W257 (Or.inl ne_b0_b4)
  have V_265 := V_244.other W257 ne_b1_b4
  have E_266 := E_245.wr W257
  have V_267 := V_246.other W257 ne_b2_b4
  have E_268 := E_247.wr W257
  have V_269 := V_248.other W257 ne_b3_b4
  have E_270 := E_249.wr W257
  have E_271 := E_250.wr W257
  have O272 := O251.wr W257 g_b4
  have K273 := K252.wr W257 (Or.inl (List.mem_of_getElem? (i := 0) rfl))
  have V_274 : Arv Z h257 b4 k8 .int (12 : Int32) [(.int i0), (.int i1), (.int i4), (.int i2), (.int i3), (.int i4), (.int (0 : Int32)), (.int (0 : Int32)), (.int (0 : Int32)), (.int (0 : Int32)), (.int (0 : Int32)), (.int (0 : Int32))] (.int (0 : Int32)) := Arv.set Ar257 q257 Sz257 Nn257 Hs257 Gf257 rfl W257 1 rfl (Nat.le_of_ble_eq_true rfl)
  have N275 := Fr.snoc X257 N254 g_b4
  have p276 : ∀ t, St p e below T257 (mkF m 257 Ls208 []) t → S0 t := fun t k => p256 t (st257 t k)
  have p277 : ∀ t, St p e below T257 (mkF m 266 Ls208 [(.int i2), (.int (2 : Int32)), (.ref b4)]) t → S0 t := fun t k => p276 t (by
    refine XS.aload X257.here hx rfl (hb hby d3_257) rfl rfl ?_
    refine XS.iload X257.here hx rfl (hb hby d3_259) rfl ?_
    refine XT.iconstV X257.here hx rfl (3 : Int32) (hb hby d3_261) (by decide) ?_
    refine XS.imul X257.here hx rfl (hb hby d3_262) rfl ?_
    refine XT.iconstV X257.here hx rfl (2 : Int32) (hb hby d3_263) (by decide) ?_
    show St p e below T257 (mkF m 264 Ls208 [(.int (2 : Int32)), (.int (0 : Int32)), (.ref b4)]) t
    refine XS.iadd X257.here hx rfl (hb hby d3_264) rfl ?_
    refine XS.iloadN X257.here hx rfl (hb hby d3_265) rfl ?_
    exact k)
  obtain ⟨cl278, Ar278, q278, Sz278, Nn278, Hs278, Gf278⟩ := id V_274
  have hin278 : ¬ ((2 : Int32) < 0 ∨ cl278.slots.size ≤ (2 : Int32).toNatClampNeg) := inb_of Sz278 ⟨by decide, by decide⟩
  obtain ⟨T278, h278, X278, e278, W278, st278⟩ := stI X257 hx hZ e257 Ar278 (j := (2 : Int32)) hin278 (g := (mkF m 266 Ls208 [(.int i2), (.int (2 : Int32)), (.ref b4)])) rfl rfl (hb hby d3_266)
  have E_279 := E_258.wr W278
  have F_280 := F_259.other W278 (Or.inl ne_b0_b4)
  have F_281 := F_260.other W278 (Or.inl ne_b0_b4)
  have F_282 := F_261.other W278 (Or.inl ne_b0_b4)
  have F_283 := F_262.other W278 (Or.inl ne_b0_b4)
  have F_284 := F_263.other W278 (Or.inl ne_b0_b4)
  have F_285 := F_264.other W278 (Or.inl ne_b0_b4)
  have V_286 := V_265.other W278 ne_b1_b4
  have E_287 := E_266.wr W278
  have V_288 := V_267.other W278 ne_b2_b4
  have E_289 := E_268.wr W278
  have V_290 := V_269.other W278 ne_b3_b4
  have E_291 := E_270.wr W278
  have E_292 := E_271.wr W278
  have O293 := O272.wr W278 g_b4
  have K294 := K273.wr W278 (Or.inl (List.mem_of_getElem? (i := 0) rfl))
  have V_295 : Arv Z h278 b4 k8 .int (12 : Int32) [(.int i0), (.int i1), (.int i2), (.int i2), (.int i3), (.int i4), (.int (0 : Int32)), (.int (0 : Int32)), (.int (0 : Int32)), (.int (0 : Int32)), (.int (0 : Int32)), (.int (0 : Int32))] (.int (0 : Int32)) := Arv.set Ar278 q278 Sz278 Nn278 Hs278 Gf278 rfl W278 2 rfl (Nat.le_of_ble_eq_true rfl)
  have N296 := Fr.snoc X278 N275 g_b4
  have p297 : ∀ t, St p e below T278 (mkF m 267 Ls208 []) t → S0 t := fun t k => p277 t (st278 t k)
  have p298 : ∀ t, St p e below T278 (mkF m 268 Ls208 [(.ref b0)]) t → S0 t := fun t k => p297 t (by
    refine XS.aloadN X278.here hx rfl (hb hby d3_267) rfl rfl ?_
    exact k)
  obtain ⟨T299, X299, e299, st299⟩ := getF X278 hx hZ hown (host := "") (Or.inl (ww hw 14 rfl)) Via.refl e278 F_281 (g := (mkF m 268 Ls208 [(.ref b0)])) rfl rfl (hb hby d3_268)
  have p300 : ∀ t, St p e below T299 (mkF m 271 Ls208 [(.ref b2)]) t → S0 t := fun t k => p298 t (st299 t k)
  have p301 : ∀ t, St p e below T299 (mkF m 274 Ls208 [(.int (0 : Int32)), (.ref b2), (.int (0 : Int32)), (.ref b2)]) t → S0 t := fun t k => p300 t (by
    refine XS.iload X299.here hx rfl (hb hby d3_271) rfl ?_
    show St p e below T299 (mkF m 273 Ls208 [(.int (0 : Int32)), (.ref b2)]) t
    jvm_step X299.here [X299.here.top, hx, (hb hby d3_273), Value.category]
    exact k)
  obtain ⟨cl302, Ar302, -, Sz302, -, Hs302, -⟩ := id V_288
  have hin302 : ¬ ((0 : Int32) < 0 ∨ cl302.slots.size ≤ (0 : Int32).toNatClampNeg) := inb_of Sz302 ⟨by decide, by decide⟩
  have hat302 : cl302.slots[(0 : Int32).toNatClampNeg]? = some (.int (1 : Int32)) := Hs302.at hin302 rfl
  have p303 : ∀ t, St p e below T299 (mkF m 277 Ls208 [(.int (2 : Int32)), (.int (0 : Int32)), (.ref b2)]) t → S0 t := fun t k => p301 t (by
    refine X299.iaload hx (j := (0 : Int32)) (v := (.int (1 : Int32))) (by rw [e299]; exact Ar302.1) (State.isArrayOf_alike hZ.alike Ar302.2.1) Ar302.2.2 hin302 hat302 (g := (mkF m 274 Ls208 [(.int (0 : Int32)), (.ref b2), (.int (0 : Int32)), (.ref b2)])) rfl rfl (hb hby d3_274) _ ?_
    refine XT.iconstV X299.here hx rfl (1 : Int32) (hb hby d3_275) (by decide) ?_
    refine XS.iadd X299.here hx rfl (hb hby d3_276) rfl ?_
    exact k)
  obtain ⟨cl304, Ar304, q304, Sz304, Nn304, Hs304, Gf304⟩ := id V_288
  have hin304 : ¬ ((0 : Int32) < 0 ∨ cl304.slots.size ≤ (0 : Int32).toNatClampNeg) := inb_of Sz304 ⟨by decide, by decide⟩
  obtain ⟨T304, h304, X304, e304, W304, st304⟩ := stI X299 hx hZ e299 Ar304 (j := (0 : Int32)) hin304 (g := (mkF m 277 Ls208 [(.int (2 : Int32)), (.int (0 : Int32)), (.ref b2)])) rfl rfl (hb hby d3_277)
  have E_305 := E_279.wr W304
  have F_306 := F_280.other W304 (Or.inl ne_b0_b2)
  have F_307 := F_281.other W304 (Or.inl ne_b0_b2)
  have F_308 := F_282.other W304 (Or.inl ne_b0_b2)
  have F_309 := F_283.other W304 (Or.inl ne_b0_b2)
  have F_310 := F_284.other W304 (Or.inl ne_b0_b2)
  have F_311 := F_285.other W304 (Or.inl ne_b0_b2)
  have V_312 := V_286.other W304 ne_b1_b2
  have E_313 := E_287.wr W304
  have E_314 := E_289.wr W304
  have V_315 := V_290.other W304 (Ne.symm ne_b2_b3)
  have E_316 := E_291.wr W304
  have V_317 := V_295.other W304 (Ne.symm ne_b2_b4)
  have E_318 := E_292.wr W304
  have O319 := O293.wr W304 g_b2
  have K320 := K294.wr W304 (Or.inl (List.mem_of_getElem? (i := 1) rfl))
  have V_321 : Arv Z h304 b2 k6 .int (4 : Int32) [(.int (2 : Int32)), (.int (0 : Int32)), (.int (0 : Int32)), (.int (0 : Int32))] (.int (0 : Int32)) := Arv.set Ar304 q304 Sz304 Nn304 Hs304 Gf304 rfl W304 0 rfl (Nat.le_of_ble_eq_true rfl)
  have N322 := Fr.snoc X304 N296 g_b2
  have p323 : ∀ t, St p e below T304 (mkF m 278 Ls208 []) t → S0 t := fun t k => p303 t (st304 t k)
  have p324 : ∀ t, St p e below T304 (mkF m 280 Ls208 [(.ref b0), (.ref b0)]) t → S0 t := fun t k => p323 t (by
    refine XS.aloadN X304.here hx rfl (hb hby d3_278) rfl rfl ?_
    refine XS.dup X304.here hx rfl (hb hby d3_279) rfl rfl ?_
    exact k)
  obtain ⟨T325, X325, e325, st325⟩ := getF X304 hx hZ hown (host := "") (Or.inl (ww hw 52 rfl)) Via.refl e304 F_311 (g := (mkF m 280 Ls208 [(.ref b0), (.ref b0)])) rfl rfl (hb hby d3_280)
  have p326 : ∀ t, St p e below T325 (mkF m 283 Ls208 [(.long (1 : Int64)), (.ref b0)]) t → S0 t := fun t k => p324 t (st325 t k)
  have p327 : ∀ t, St p e below T325 (mkF m 285 Ls208 [(.long (2 : Int64)), (.ref b0)]) t → S0 t := fun t k => p326 t (by
    refine XT.lconstV X325.here hx rfl (1 : Int64) (hb hby d3_283) (by decide) ?_
    refine XS.ladd X325.here hx rfl (hb hby d3_284) rfl ?_
    exact k)
  obtain ⟨T328, h328, X328, e328, W328, st328⟩ := putF X325 hx hZ hown (host := "") (Or.inl (ww hw 52 rfl)) Via.refl e325 F_311 E_305 (Or.inl (ww hw 53 rfl)) (ww hw 1 rfl) (ty := .long) (by decide) rfl rfl (g := (mkF m 285 Ls208 [(.long (2 : Int64)), (.ref b0)])) rfl rfl (hb hby d3_285)
  have E_329 := E_305.wr W328
  have F_330 := F_306.other W328 (Or.inr (sn20 hw))
  have F_331 := F_307.other W328 (Or.inr (sn21 hw))
  have F_332 := F_308.other W328 (Or.inr (sn22 hw))
  have F_333 := F_309.other W328 (Or.inr (sn23 hw))
  have F_334 := F_310.other W328 (Or.inr (sn24 hw))
  have V_335 := V_312.other W328 (Ne.symm ne_b0_b1)
  have E_336 := E_313.wr W328
  have V_337 := V_321.other W328 (Ne.symm ne_b0_b2)
  have E_338 := E_314.wr W328
  have V_339 := V_315.other W328 (Ne.symm ne_b0_b3)
  have E_340 := E_316.wr W328
  have V_341 := V_317.other W328 (Ne.symm ne_b0_b4)
  have E_342 := E_318.wr W328
  have O343 := O319.wr W328 g_b0
  have K344 := K320.wr W328 (Or.inl (List.mem_of_getElem? (i := 2) rfl))
  have F_345 : Fld Z h328 b0 "com/example/quadrille/quadrille/store/SortedTriples" "size" "J" (.long (2 : Int64)) := F_311.same W328
  have N346 := Fr.snoc X328 N322 g_b0
  have p347 : ∀ t, St p e below T328 (mkF m 288 Ls208 []) t → S0 t := fun t k => p327 t (st328 t k)
  have p348 : ∀ t, St p e below T328 (mkF m 289 Ls208 [(.int (1 : Int32))]) t → S0 t := fun t k => p347 t (by
    refine XT.iconstV X328.here hx rfl (1 : Int32) (hb hby d3_288) (by decide) ?_
    exact k)
  obtain ⟨fs, hr, hrun, hended, hW, hsame⟩ := X328.leave (v := some (.int (1 : Int32))) (fun h => by rw [Bd.returns] at h; cases h)
  refine ⟨_, _, p348 _ ?_, hrun, hended, _, _, rfl, ?_, ⟨_, rfl⟩, hW, hsame.mono (by decide) (by decide)⟩
  · exact retOut X328 hx Bd.returns rfl (Or.inl ⟨rfl, by simp, _, rfl⟩) (hb hby d3_289) hr
  · show Q3_7 Z i0 i1 i2 i3 i4 b0 b1 b2 b3 b4 k5 k6 k7 k8 h0 n0 _ T328.heap _
    rw [e328]
    exact ⟨N346, (Or.inr (Or.inl ⟨rfl, K344, E_329, F_330, F_331, F_332, F_333, F_334, F_345, V_337, E_338, V_341, E_342, g25, g26⟩))⟩
 ·
  have p349 : ∀ t, St p e below Tc23 (mkF m 49 Ls11 [(.int (0 : Int32))]) t → S0 t := fun t k => p22 t (stc23 t k)
  let Ls350 : Array Slot := #[.val (.ref b0), .val (.int i0), .val (.int i1), .val (.int i2), .val (.int (0 : Int32)), .val (.int (0 : Int32)), .unset, .unset]
  have p351 : ∀ t, St p e below Tc23 (mkF m 57 Ls350 [(.int (0 : Int32))]) t → S0 t := fun t k => p349 t (by
    refine XS.istore Xc23.here hx rfl (hb hby d3_49) rfl (l' := Ls350) rfl ?_
    refine XS.iload Xc23.here hx rfl (hb hby d3_51) rfl ?_
    refine XS.ifNo Xc23.here hx rfl (hb hby d3_53) rfl ((if0 _ _).trans (flt (by decide : ¬ ((0 : Int32) < (0 : Int32)))).1) ?_
    refine XT.iconstV Xc23.here hx rfl (0 : Int32) (hb hby d3_56) (by decide) ?_
    exact k)
  obtain ⟨fs, hr, hrun, hended, hW, hsame⟩ := Xc23.leave (v := some (.int (0 : Int32))) (fun h => by rw [Bd.returns] at h; cases h)
  refine ⟨_, _, p351 _ ?_, hrun, hended, _, _, rfl, ?_, ⟨_, rfl⟩, hW, hsame.mono (by decide) (by decide)⟩
  · exact retOut Xc23 hx Bd.returns rfl (Or.inl ⟨rfl, by simp, _, rfl⟩) (hb hby d3_57) hr
  · show Q3_7 Z i0 i1 i2 i3 i4 b0 b1 b2 b3 b4 k5 k6 k7 k8 h0 n0 _ Tc23.heap _
    rw [ec23]
    exact ⟨Nc23, (Or.inr (Or.inr (⟨rfl, (Keep.refl h0 [b4, b2, b0]), f0, f1, f2, f3, f4, f5, f6, f10, f11, f14, f15, g27, g28⟩)))⟩
theorem ar4 {x0 : Int32} {x1 : Int32} {x2 : Int32} {x3 : Int32} {x4 : Int32} (h0 : (own_cmp3 x0 x1 x2 x3 x4 x0) < (0 : Int32)) (h1 : ¬ ((own_isz (own_cmp3 x0 x1 x2 x3 x4 x0)) = (0 : Int32))) : False := by
  have q1_ := ltI h0
  have q2_ := neI h1
  have l3_ := rng32 x0
  have l4_ := rng32 x1
  have l5_ := rng32 x2
  have l6_ := rng32 x3
  have l7_ := rng32 x4
  have l8_ := own_cmp3_r x0 x1 x2 x3 x4 x0
  have l9_ := lI0
  have l10_ := own_c_isz (own_cmp3 x0 x1 x2 x3 x4 x0)
  omega
theorem ar5 {x0 : Int32} {x1 : Int32} {x2 : Int32} {x3 : Int32} {x4 : Int32} (h0 : (0 : Int32) < (own_cmp3 x0 x1 x2 x3 x4 x0)) (h1 : ¬ ((own_isz (own_cmp3 x0 x1 x2 x3 x4 x0)) = (0 : Int32))) : False := by
  have q1_ := ltI h0
  have q2_ := neI h1
  have l3_ := lI0
  have l4_ := rng32 x0
  have l5_ := rng32 x1
  have l6_ := rng32 x2
  have l7_ := rng32 x3
  have l8_ := rng32 x4
  have l9_ := own_cmp3_r x0 x1 x2 x3 x4 x0
  have l10_ := own_c_isz (own_cmp3 x0 x1 x2 x3 x4 x0)
  omega
theorem ar6 {x0 : Int32} {x1 : Int32} {x2 : Int32} {x3 : Int32} {x4 : Int32} (h0 : ¬ ((own_cmp3 x0 x1 x2 x3 x4 x0) < (0 : Int32))) (h1 : ¬ ((0 : Int32) < (own_cmp3 x0 x1 x2 x3 x4 x0))) (h2 : (own_isz (own_cmp3 x0 x1 x2 x3 x4 x0)) = (0 : Int32)) : False := by
  have q1_ := nltI h0
  have q2_ := nltI h1
  have q3_ := eqI h2
  have l4_ := rng32 x0
  have l5_ := rng32 x1
  have l6_ := rng32 x2
  have l7_ := rng32 x3
  have l8_ := rng32 x4
  have l9_ := own_cmp3_r x0 x1 x2 x3 x4 x0
  have l10_ := lI0
  have l11_ := own_c_isz (own_cmp3 x0 x1 x2 x3 x4 x0)
  omega
theorem ef10 (m : MethodId) (x0 : Addr) : entryFrame m #[(.ref x0)] 1 = mkF m 0 #[.val (.ref x0)] [] := by first | (simp [entryFrame, mkF, argsToLocals, Value.category]; done) | rfl
theorem d13_0 : decode prog_155_method_8_code 0 = .ok (.aload_n 0, 1) := by decide +kernel
theorem d13_1 : decode prog_155_method_8_code 1 = .ok (.iconst 4, 1) := by decide +kernel
theorem d13_2 : decode prog_155_method_8_code 2 = .ok (.anewarray 9, 3) := by decide +kernel
theorem d13_5 : decode prog_155_method_8_code 5 = .ok (.putfield 11, 3) := by decide +kernel
theorem d13_8 : decode prog_155_method_8_code 8 = .ok (.aload_n 0, 1) := by decide +kernel
theorem d13_9 : decode prog_155_method_8_code 9 = .ok (.iconst 4, 1) := by decide +kernel
theorem d13_10 : decode prog_155_method_8_code 10 = .ok (.newarray .int, 2) := by decide +kernel
theorem d13_12 : decode prog_155_method_8_code 12 = .ok (.putfield 15, 3) := by decide +kernel
theorem d13_15 : decode prog_155_method_8_code 15 = .ok (.aload_n 0, 1) := by decide +kernel
theorem d13_16 : decode prog_155_method_8_code 16 = .ok (.iconst 4, 1) := by decide +kernel
theorem d13_17 : decode prog_155_method_8_code 17 = .ok (.newarray .boolean, 2) := by decide +kernel
theorem d13_19 : decode prog_155_method_8_code 19 = .ok (.putfield 18, 3) := by decide +kernel
theorem d13_22 : decode prog_155_method_8_code 22 = .ok (.aload_n 0, 1) := by decide +kernel
theorem d13_23 : decode prog_155_method_8_code 23 = .ok (.iconst 0, 1) := by decide +kernel
theorem d13_24 : decode prog_155_method_8_code 24 = .ok (.putfield 30, 3) := by decide +kernel
theorem sn25 {Z : State} {a0 : Array Value} (hw : ∀ d ∈ tables_1, d.before a0 Z = true) : Jvm.RoadKit.slotOf Z "com/example/quadrille/quadrille/store/SortedTriples" "blocks" "[[I" ≠ Jvm.RoadKit.slotOf Z "com/example/quadrille/quadrille/store/SortedTriples" "shared" "Z" := slot_ne (Or.inl (ww hw 12 rfl)) (Or.inl (ww hw 29 rfl)) (by decide) (t := (.array (.array .int))) (t' := .boolean) (by decide) (by decide)
theorem sn26 {Z : State} {a0 : Array Value} (hw : ∀ d ∈ tables_1, d.before a0 Z = true) : Jvm.RoadKit.slotOf Z "com/example/quadrille/quadrille/store/SortedTriples" "counts" "[I" ≠ Jvm.RoadKit.slotOf Z "com/example/quadrille/quadrille/store/SortedTriples" "shared" "Z" := slot_ne (Or.inl (ww hw 15 rfl)) (Or.inl (ww hw 29 rfl)) (by decide) (t := (.array .int)) (t' := .boolean) (by decide) (by decide)
theorem sn27 {Z : State} {a0 : Array Value} (hw : ∀ d ∈ tables_1, d.before a0 Z = true) : Jvm.RoadKit.slotOf Z "com/example/quadrille/quadrille/store/SortedTriples" "owned" "[Z" ≠ Jvm.RoadKit.slotOf Z "com/example/quadrille/quadrille/store/SortedTriples" "shared" "Z" := slot_ne (Or.inl (ww hw 18 rfl)) (Or.inl (ww hw 29 rfl)) (by decide) (t := (.array .boolean)) (t' := .boolean) (by decide) (by decide)
theorem sn28 {Z : State} {a0 : Array Value} (hw : ∀ d ∈ tables_1, d.before a0 Z = true) : Jvm.RoadKit.slotOf Z "com/example/quadrille/quadrille/store/SortedTriples" "blockCount" "I" ≠ Jvm.RoadKit.slotOf Z "com/example/quadrille/quadrille/store/SortedTriples" "shared" "Z" := slot_ne (Or.inl (ww hw 31 rfl)) (Or.inl (ww hw 29 rfl)) (by decide) (t := .int) (t' := .boolean) (by decide) (by decide)
theorem sn29 {Z : State} {a0 : Array Value} (hw : ∀ d ∈ tables_1, d.before a0 Z = true) : Jvm.RoadKit.slotOf Z "com/example/quadrille/quadrille/store/SortedTriples" "size" "J" ≠ Jvm.RoadKit.slotOf Z "com/example/quadrille/quadrille/store/SortedTriples" "shared" "Z" := slot_ne (Or.inl (ww hw 53 rfl)) (Or.inl (ww hw 29 rfl)) (by decide) (t := .long) (t' := .boolean) (by decide) (by decide)
theorem d13_27 : decode prog_155_method_8_code 27 = .ok (.aload_n 0, 1) := by decide +kernel
theorem d13_28 : decode prog_155_method_8_code 28 = .ok (.iconst 0, 1) := by decide +kernel
theorem d13_29 : decode prog_155_method_8_code 29 = .ok (.putfield 22, 3) := by decide +kernel
theorem d13_32 : decode prog_155_method_8_code 32 = .ok (.aload_n 0, 1) := by decide +kernel
theorem d13_33 : decode prog_155_method_8_code 33 = .ok (.lconst 0, 1) := by decide +kernel
theorem d13_34 : decode prog_155_method_8_code 34 = .ok (.putfield 26, 3) := by decide +kernel
theorem d13_37 : decode prog_155_method_8_code 37 = .ok (.return_, 1) := by decide +kernel
def Q13_11 (Z : State) (i0 : Int32) (i1 : Int32) (j2 : Int64) (b0 : Addr) (b1 : Addr) (b2 : Addr) (b3 : Addr) (h0 : Heap) (n0 : Nat) (v : Option Value) (h : Heap) (L : List Loc) : Prop := Fr n0 L ∧ ((∃ (o2 : Addr) (o31 : Addr) (o63 : Addr) (k2 : ClassId) (k31 : ClassId) (k63 : ClassId), v = none ∧ Keep h0 h [b0] ∧ n0 ≤ o2 ∧ h0.size ≤ o2 ∧ n0 ≤ o31 ∧ h0.size ≤ o31 ∧ n0 ≤ o63 ∧ h0.size ≤ o63 ∧ o2 ≠ o31 ∧ o2 ≠ o63 ∧ o31 ≠ o63 ∧ Exa Z h b0 "com/example/quadrille/quadrille/store/SortedTriples" ∧ Fld Z h b0 "com/example/quadrille/quadrille/store/SortedTriples" "blocks" "[[I" (.ref o2) ∧ Fld Z h b0 "com/example/quadrille/quadrille/store/SortedTriples" "counts" "[I" (.ref o31) ∧ Fld Z h b0 "com/example/quadrille/quadrille/store/SortedTriples" "owned" "[Z" (.ref o63) ∧ Fld Z h b0 "com/example/quadrille/quadrille/store/SortedTriples" "shared" "Z" (.int (0 : Int32)) ∧ Fld Z h b0 "com/example/quadrille/quadrille/store/SortedTriples" "blockCount" "I" (.int (0 : Int32)) ∧ Fld Z h b0 "com/example/quadrille/quadrille/store/SortedTriples" "size" "J" (.long (0 : Int64)) ∧ Arv Z h o2 k2 (.array .int) (4 : Int32) [.null, .null, .null, .null] .null ∧ Exa Z h o2 "[[I" ∧ OvrA Z k2 .int "[I" ∧ Arv Z h o31 k31 .int (4 : Int32) [(.int (0 : Int32)), (.int (0 : Int32)), (.int (0 : Int32)), (.int (0 : Int32))] (.int (0 : Int32)) ∧ Exa Z h o31 "[I" ∧ Arv Z h o63 k63 .boolean (4 : Int32) [(.int (0 : Int32)), (.int (0 : Int32)), (.int (0 : Int32)), (.int (0 : Int32))] (.int (0 : Int32)) ∧ Exa Z h o63 "[Z"))
set_option maxRecDepth 65536 in
set_option maxHeartbeats 40000000 in
theorem rm13_11 (l : Launch) (Z : State) (a0 : Array Value) (hw : ∀ d ∈ tables_1, d.before a0 Z = true) (ws : List Jvm.Cond) (i0 : Int32) (i1 : Int32) (j2 : Int64) (b0 : Addr) (b1 : Addr) (b2 : Addr) (b3 : Addr) (h0 : Heap) (n0 : Nat) (O0 : Old Z n0 h0)  (g_b0 : n0 ≤ b0) (g_b1 : n0 ≤ b1) (g_b2 : n0 ≤ b2) (g_b3 : n0 ≤ b3) (ne_b0_b1 : b0 ≠ b1) (ne_b0_b2 : b0 ≠ b2) (ne_b0_b3 : b0 ≠ b3) (ne_b1_b2 : b1 ≠ b2) (ne_b1_b3 : b1 ≠ b3) (ne_b2_b3 : b2 ≠ b3) (f0 : Exa Z h0 b0 "com/example/quadrille/quadrille/store/SortedTriples") (f1 : Fld Z h0 b0 "com/example/quadrille/quadrille/store/SortedTriples" "blocks" "[[I" (.ref b1)) (f2 : Fld Z h0 b0 "com/example/quadrille/quadrille/store/SortedTriples" "counts" "[I" (.ref b2)) (f3 : Fld Z h0 b0 "com/example/quadrille/quadrille/store/SortedTriples" "owned" "[Z" (.ref b3)) (f4 : Fld Z h0 b0 "com/example/quadrille/quadrille/store/SortedTriples" "shared" "Z" (.int i0)) (f5 : Fld Z h0 b0 "com/example/quadrille/quadrille/store/SortedTriples" "blockCount" "I" (.int i1)) (f6 : Fld Z h0 b0 "com/example/quadrille/quadrille/store/SortedTriples" "size" "J" (.long j2)) :
    MetFree l M9 (head1 (Jvm.Cond.code M9 prog_155_method_8_code 1 none :: ws) ({ frames := 0, cells := 3, slots := 12, locals := 0 } : Room)) (fun a U => a = #[(.ref b0)] ∧ Z.Warmed39 U.vm ∧ U.heap = h0) (fun _ _ _ _ _ => True) (fun _ U o U' => ∃ v L, o = .returned v ∧ Q13_11 Z i0 i1 j2 b0 b1 b2 b3 h0 n0 v U'.heap L ∧ FrameEnd U o U' L ({ frames := 0, cells := 3, slots := 12, locals := 0 } : Room).cells ({ frames := 0, cells := 3, slots := 12, locals := 0 } : Room).slots) := by
 refine MetFree.of_bodySF (plainFor_of_name pn1) hisR ?_
 intro p e s m args below meth c s₁ Bd hml0 hP hK
 obtain ⟨rfl, hZ, hh⟩ := hP
 have hx := Bd.exec
 have hby := Bd.bytes
 have hml : c.maxLocals = 1 := hml0
 have hown : s.vm.findClass "com/example/quadrille/quadrille/store/SortedTriples" = some m.cls := findClass_of_methodNamed Bd.named
 have hnm := (name_of_methodNamed Bd.named Bd.method).1
 have X0 : Stand p l e ({ frames := 0, cells := 3, slots := 12, locals := 0 } : Room) s m #[(.ref b0)] below meth c s₁ [] 0 0 := Stand.of_body Bd
 have e0 : s₁.heap = h0 := by rw [← hh, Bd.state]; rfl
 have N0 := Fr.nil n0
 let S0 : State → Prop := fun t => Steps p.tables e below (s₁.setTop (entryFrame m #[(.ref b0)] 1)) t
 have p0 : ∀ t, St p e below s₁ (mkF m 0 #[.val (.ref b0)] []) t → S0 t := fun t k => castTop (ef10 m b0) k
 have p1 : ∀ t, St p e below s₁ (mkF m 2 #[.val (.ref b0)] [(.int (4 : Int32)), (.ref b0)]) t → S0 t := fun t k => p0 t (by
   refine XS.aloadN X0.here hx rfl (hb hby d13_0) rfl rfl ?_
   refine XT.iconstV X0.here hx rfl (4 : Int32) (hb hby d13_1) (by decide) ?_
   exact k)
 obtain ⟨T2, h2, k2, X2, e2, E2, A2, Ea2, Ov2, st2⟩ := newRA X0 hx hZ (ty := .int) hown (by decide) (ww hw 9 rfl) (ww hw 10 rfl) e0 (g := (mkF m 2 #[.val (.ref b0)] [(.int (4 : Int32)), (.ref b0)])) rfl (hb hby d13_2) rfl (by decide) (cap := 4) (by decide) (by decide) (by decide) (by decide) (ad := "[[I") (by decide)
 obtain ⟨o2, gq2⟩ : ∃ z, z = (h0).size := ⟨_, rfl⟩
 rw [← gq2] at A2 Ea2 st2
 have gb_o2 : n0 ≤ o2 := Nat.le_trans (own_old_le O0) (Nat.le_of_eq gq2.symm)
 have sz_o2 : h0.size ≤ o2 := Nat.le_trans ((Keep.refl h0 [b0])).1 (Nat.le_of_eq gq2.symm)
 have ne_b0_o2 : b0 ≠ o2 := Nat.ne_of_lt (Nat.lt_of_lt_of_le f0.lt (Nat.le_of_eq gq2.symm))
 have E_3 := f0.ext E2
 have F_4 := f1.ext E2
 have F_5 := f2.ext E2
 have F_6 := f3.ext E2
 have F_7 := f4.ext E2
 have F_8 := f5.ext E2
 have F_9 := f6.ext E2
 have O10 := O0.ext E2
 have K11 := (Keep.refl h0 [b0]).ext E2
 have V_12 : Arv Z h2 o2 k2 (.array .int) (4 : Int32) [.null, .null, .null, .null] .null := (Arv.new A2 (by decide)).pad (pad_rep [] .null 4)
 have E_13 : Exa Z h2 o2 "[[I" := Ea2
 have O_14 : OvrA Z k2 .int "[I" := Ov2
 have p15 : ∀ t, St p e below T2 (mkF m 5 #[.val (.ref b0)] [(.ref o2), (.ref b0)]) t → S0 t := fun t k => p1 t (st2 t k)
 obtain ⟨T16, h16, X16, e16, W16, st16⟩ := putF X2 hx hZ hown (host := "") (Or.inl (ww hw 11 rfl)) Via.refl e2 F_4 E_3 (Or.inl (ww hw 12 rfl)) (ww hw 1 rfl) (ty := (.array (.array .int))) (by decide) rfl rfl (g := (mkF m 5 #[.val (.ref b0)] [(.ref o2), (.ref b0)])) rfl rfl (hb hby d13_5)
 have E_17 := E_3.wr W16
 have F_18 := F_5.other W16 (Or.inr (sn0 hw))
 have F_19 := F_6.other W16 (Or.inr (sn1 hw))
 have F_20 := F_7.other W16 (Or.inr (sn2 hw))
 have F_21 := F_8.other W16 (Or.inr (sn3 hw))
 have F_22 := F_9.other W16 (Or.inr (sn4 hw))
 have V_23 := V_12.other W16 (Ne.symm ne_b0_o2)
 have E_24 := E_13.wr W16
 have O25 := O10.wr W16 g_b0
 have K26 := K11.wr W16 (Or.inl (List.mem_of_getElem? (i := 0) rfl))
 have F_27 : Fld Z h16 b0 "com/example/quadrille/quadrille/store/SortedTriples" "blocks" "[[I" (.ref o2) := F_4.same W16
 have N28 := Fr.snoc X16 N0 g_b0
 have p29 : ∀ t, St p e below T16 (mkF m 8 #[.val (.ref b0)] []) t → S0 t := fun t k => p15 t (st16 t k)
 have p30 : ∀ t, St p e below T16 (mkF m 10 #[.val (.ref b0)] [(.int (4 : Int32)), (.ref b0)]) t → S0 t := fun t k => p29 t (by
   refine XS.aloadN X16.here hx rfl (hb hby d13_8) rfl rfl ?_
   refine XT.iconstV X16.here hx rfl (4 : Int32) (hb hby d13_9) (by decide) ?_
   exact k)
 obtain ⟨T31, h31, k31, X31, e31, E31, A31, Ea31, st31⟩ := newPE X16 hx hZ (ww hw 13 rfl) e16 (g := (mkF m 10 #[.val (.ref b0)] [(.int (4 : Int32)), (.ref b0)])) rfl (hb hby d13_10) rfl (by decide) (cap := 4) (by decide) (by decide) (by decide) (by decide) (ad := "[I") (by decide)
 obtain ⟨o31, gq31⟩ : ∃ z, z = (h16).size := ⟨_, rfl⟩
 rw [← gq31] at A31 Ea31 st31
 have gb_o31 : n0 ≤ o31 := Nat.le_trans (own_old_le O25) (Nat.le_of_eq gq31.symm)
 have sz_o31 : h0.size ≤ o31 := Nat.le_trans (K26).1 (Nat.le_of_eq gq31.symm)
 have ne_b0_o31 : b0 ≠ o31 := Nat.ne_of_lt (Nat.lt_of_lt_of_le E_17.lt (Nat.le_of_eq gq31.symm))
 have ne_o2_o31 : o2 ≠ o31 := Nat.ne_of_lt (Nat.lt_of_lt_of_le V_23.lt (Nat.le_of_eq gq31.symm))
 have E_32 := E_17.ext E31
 have F_33 := F_27.ext E31
 have F_34 := F_18.ext E31
 have F_35 := F_19.ext E31
 have F_36 := F_20.ext E31
 have F_37 := F_21.ext E31
 have F_38 := F_22.ext E31
 have V_39 := V_23.ext E31
 have E_40 := E_24.ext E31
 have O41 := O25.ext E31
 have K42 := K26.ext E31
 have V_43 : Arv Z h31 o31 k31 .int (4 : Int32) [(.int (0 : Int32)), (.int (0 : Int32)), (.int (0 : Int32)), (.int (0 : Int32))] (.int (0 : Int32)) := (Arv.new A31 (by decide)).pad (pad_rep [] (.int (0 : Int32)) 4)
 have E_44 : Exa Z h31 o31 "[I" := Ea31
 have p45 : ∀ t, St p e below T31 (mkF m 12 #[.val (.ref b0)] [(.ref o31), (.ref b0)]) t → S0 t := fun t k => p30 t (st31 t k)
 obtain ⟨T46, h46, X46, e46, W46, st46⟩ := putF X31 hx hZ hown (host := "") (Or.inl (ww hw 14 rfl)) Via.refl e31 F_34 E_32 (Or.inl (ww hw 15 rfl)) (ww hw 1 rfl) (ty := (.array .int)) (by decide) rfl rfl (g := (mkF m 12 #[.val (.ref b0)] [(.ref o31), (.ref b0)])) rfl rfl (hb hby d13_12)
 have E_47 := E_32.wr W46
 have F_48 := F_33.other W46 (Or.inr (sn5 hw))
 have F_49 := F_35.other W46 (Or.inr (sn6 hw))
 have F_50 := F_36.other W46 (Or.inr (sn7 hw))
 have F_51 := F_37.other W46 (Or.inr (sn8 hw))
 have F_52 := F_38.other W46 (Or.inr (sn9 hw))
 have V_53 := V_39.other W46 (Ne.symm ne_b0_o2)
 have E_54 := E_40.wr W46
 have V_55 := V_43.other W46 (Ne.symm ne_b0_o31)
 have E_56 := E_44.wr W46
 have O57 := O41.wr W46 g_b0
 have K58 := K42.wr W46 (Or.inl (List.mem_of_getElem? (i := 0) rfl))
 have F_59 : Fld Z h46 b0 "com/example/quadrille/quadrille/store/SortedTriples" "counts" "[I" (.ref o31) := F_34.same W46
 have N60 := Fr.snoc X46 N28 g_b0
 have p61 : ∀ t, St p e below T46 (mkF m 15 #[.val (.ref b0)] []) t → S0 t := fun t k => p45 t (st46 t k)
 have p62 : ∀ t, St p e below T46 (mkF m 17 #[.val (.ref b0)] [(.int (4 : Int32)), (.ref b0)]) t → S0 t := fun t k => p61 t (by
   refine XS.aloadN X46.here hx rfl (hb hby d13_15) rfl rfl ?_
   refine XT.iconstV X46.here hx rfl (4 : Int32) (hb hby d13_16) (by decide) ?_
   exact k)
 obtain ⟨T63, h63, k63, X63, e63, E63, A63, Ea63, st63⟩ := newPE X46 hx hZ (ww hw 16 rfl) e46 (g := (mkF m 17 #[.val (.ref b0)] [(.int (4 : Int32)), (.ref b0)])) rfl (hb hby d13_17) rfl (by decide) (cap := 4) (by decide) (by decide) (by decide) (by decide) (ad := "[Z") (by decide)
 obtain ⟨o63, gq63⟩ : ∃ z, z = (h46).size := ⟨_, rfl⟩
 rw [← gq63] at A63 Ea63 st63
 have gb_o63 : n0 ≤ o63 := Nat.le_trans (own_old_le O57) (Nat.le_of_eq gq63.symm)
 have sz_o63 : h0.size ≤ o63 := Nat.le_trans (K58).1 (Nat.le_of_eq gq63.symm)
 have ne_b0_o63 : b0 ≠ o63 := Nat.ne_of_lt (Nat.lt_of_lt_of_le E_47.lt (Nat.le_of_eq gq63.symm))
 have ne_o2_o63 : o2 ≠ o63 := Nat.ne_of_lt (Nat.lt_of_lt_of_le V_53.lt (Nat.le_of_eq gq63.symm))
 have ne_o31_o63 : o31 ≠ o63 := Nat.ne_of_lt (Nat.lt_of_lt_of_le V_55.lt (Nat.le_of_eq gq63.symm))
 have E_64 := E_47.ext E63
 have F_65 := F_48.ext E63
 have F_66 := F_59.ext E63
 have F_67 := F_49.ext E63
 have F_68 := F_50.ext E63
 have F_69 := F_51.ext E63
 have F_70 := F_52.ext E63
 have V_71 := V_53.ext E63
 have E_72 := E_54.ext E63
 have V_73 := V_55.ext E63
 have E_74 := E_56.ext E63
 have O75 := O57.ext E63
 have K76 := K58.ext E63
 have V_77 : Arv Z h63 o63 k63 .boolean (4 : Int32) [(.int (0 : Int32)), (.int (0 : Int32)), (.int (0 : Int32)), (.int (0 : Int32))] (.int (0 : Int32)) := (Arv.new A63 (by decide)).pad (pad_rep [] (.int (0 : Int32)) 4)
 have E_78 : Exa Z h63 o63 "[Z" := Ea63
 have p79 : ∀ t, St p e below T63 (mkF m 19 #[.val (.ref b0)] [(.ref o63), (.ref b0)]) t → S0 t := fun t k => p62 t (st63 t k)
 obtain ⟨T80, h80, X80, e80, W80, st80⟩ := putF X63 hx hZ hown (host := "") (Or.inl (ww hw 17 rfl)) Via.refl e63 F_67 E_64 (Or.inl (ww hw 18 rfl)) (ww hw 1 rfl) (ty := (.array .boolean)) (by decide) rfl rfl (g := (mkF m 19 #[.val (.ref b0)] [(.ref o63), (.ref b0)])) rfl rfl (hb hby d13_19)
 have E_81 := E_64.wr W80
 have F_82 := F_65.other W80 (Or.inr (sn10 hw))
 have F_83 := F_66.other W80 (Or.inr (sn11 hw))
 have F_84 := F_68.other W80 (Or.inr (sn12 hw))
 have F_85 := F_69.other W80 (Or.inr (sn13 hw))
 have F_86 := F_70.other W80 (Or.inr (sn14 hw))
 have V_87 := V_71.other W80 (Ne.symm ne_b0_o2)
 have E_88 := E_72.wr W80
 have V_89 := V_73.other W80 (Ne.symm ne_b0_o31)
 have E_90 := E_74.wr W80
 have V_91 := V_77.other W80 (Ne.symm ne_b0_o63)
 have E_92 := E_78.wr W80
 have O93 := O75.wr W80 g_b0
 have K94 := K76.wr W80 (Or.inl (List.mem_of_getElem? (i := 0) rfl))
 have F_95 : Fld Z h80 b0 "com/example/quadrille/quadrille/store/SortedTriples" "owned" "[Z" (.ref o63) := F_67.same W80
 have N96 := Fr.snoc X80 N60 g_b0
 have p97 : ∀ t, St p e below T80 (mkF m 22 #[.val (.ref b0)] []) t → S0 t := fun t k => p79 t (st80 t k)
 have p98 : ∀ t, St p e below T80 (mkF m 24 #[.val (.ref b0)] [(.int (0 : Int32)), (.ref b0)]) t → S0 t := fun t k => p97 t (by
   refine XS.aloadN X80.here hx rfl (hb hby d13_22) rfl rfl ?_
   refine XT.iconstV X80.here hx rfl (0 : Int32) (hb hby d13_23) (by decide) ?_
   exact k)
 obtain ⟨T99, h99, X99, e99, W99, st99⟩ := putFN X80 hx hZ hown (ww hw 28 rfl) Via.refl e80 F_84 E_81 (Or.inl (ww hw 29 rfl)) (ww hw 1 rfl) (ty := .boolean) (v' := (.int (0 : Int32))) (by decide) rfl (by decide) (g := (mkF m 24 #[.val (.ref b0)] [(.int (0 : Int32)), (.ref b0)])) rfl rfl (hb hby d13_24)
 have E_100 := E_81.wr W99
 have F_101 := F_82.other W99 (Or.inr (sn25 hw))
 have F_102 := F_83.other W99 (Or.inr (sn26 hw))
 have F_103 := F_95.other W99 (Or.inr (sn27 hw))
 have F_104 := F_85.other W99 (Or.inr (sn28 hw))
 have F_105 := F_86.other W99 (Or.inr (sn29 hw))
 have V_106 := V_87.other W99 (Ne.symm ne_b0_o2)
 have E_107 := E_88.wr W99
 have V_108 := V_89.other W99 (Ne.symm ne_b0_o31)
 have E_109 := E_90.wr W99
 have V_110 := V_91.other W99 (Ne.symm ne_b0_o63)
 have E_111 := E_92.wr W99
 have O112 := O93.wr W99 g_b0
 have K113 := K94.wr W99 (Or.inl (List.mem_of_getElem? (i := 0) rfl))
 have F_114 : Fld Z h99 b0 "com/example/quadrille/quadrille/store/SortedTriples" "shared" "Z" (.int (0 : Int32)) := F_84.same W99
 have N115 := Fr.snoc X99 N96 g_b0
 have p116 : ∀ t, St p e below T99 (mkF m 27 #[.val (.ref b0)] []) t → S0 t := fun t k => p98 t (st99 t k)
 have p117 : ∀ t, St p e below T99 (mkF m 29 #[.val (.ref b0)] [(.int (0 : Int32)), (.ref b0)]) t → S0 t := fun t k => p116 t (by
   refine XS.aloadN X99.here hx rfl (hb hby d13_27) rfl rfl ?_
   refine XT.iconstV X99.here hx rfl (0 : Int32) (hb hby d13_28) (by decide) ?_
   exact k)
 obtain ⟨T118, h118, X118, e118, W118, st118⟩ := putF X99 hx hZ hown (host := "") (Or.inl (ww hw 30 rfl)) Via.refl e99 F_104 E_100 (Or.inl (ww hw 31 rfl)) (ww hw 1 rfl) (ty := .int) (by decide) rfl rfl (g := (mkF m 29 #[.val (.ref b0)] [(.int (0 : Int32)), (.ref b0)])) rfl rfl (hb hby d13_29)
 have E_119 := E_100.wr W118
 have F_120 := F_101.other W118 (Or.inr (sn15 hw))
 have F_121 := F_102.other W118 (Or.inr (sn16 hw))
 have F_122 := F_103.other W118 (Or.inr (sn17 hw))
 have F_123 := F_114.other W118 (Or.inr (sn18 hw))
 have F_124 := F_105.other W118 (Or.inr (sn19 hw))
 have V_125 := V_106.other W118 (Ne.symm ne_b0_o2)
 have E_126 := E_107.wr W118
 have V_127 := V_108.other W118 (Ne.symm ne_b0_o31)
 have E_128 := E_109.wr W118
 have V_129 := V_110.other W118 (Ne.symm ne_b0_o63)
 have E_130 := E_111.wr W118
 have O131 := O112.wr W118 g_b0
 have K132 := K113.wr W118 (Or.inl (List.mem_of_getElem? (i := 0) rfl))
 have F_133 : Fld Z h118 b0 "com/example/quadrille/quadrille/store/SortedTriples" "blockCount" "I" (.int (0 : Int32)) := F_104.same W118
 have N134 := Fr.snoc X118 N115 g_b0
 have p135 : ∀ t, St p e below T118 (mkF m 32 #[.val (.ref b0)] []) t → S0 t := fun t k => p117 t (st118 t k)
 have p136 : ∀ t, St p e below T118 (mkF m 34 #[.val (.ref b0)] [(.long (0 : Int64)), (.ref b0)]) t → S0 t := fun t k => p135 t (by
   refine XS.aloadN X118.here hx rfl (hb hby d13_32) rfl rfl ?_
   refine XT.lconstV X118.here hx rfl (0 : Int64) (hb hby d13_33) (by decide) ?_
   exact k)
 obtain ⟨T137, h137, X137, e137, W137, st137⟩ := putF X118 hx hZ hown (host := "") (Or.inl (ww hw 52 rfl)) Via.refl e118 F_124 E_119 (Or.inl (ww hw 53 rfl)) (ww hw 1 rfl) (ty := .long) (by decide) rfl rfl (g := (mkF m 34 #[.val (.ref b0)] [(.long (0 : Int64)), (.ref b0)])) rfl rfl (hb hby d13_34)
 have E_138 := E_119.wr W137
 have F_139 := F_120.other W137 (Or.inr (sn20 hw))
 have F_140 := F_121.other W137 (Or.inr (sn21 hw))
 have F_141 := F_122.other W137 (Or.inr (sn22 hw))
 have F_142 := F_123.other W137 (Or.inr (sn23 hw))
 have F_143 := F_133.other W137 (Or.inr (sn24 hw))
 have V_144 := V_125.other W137 (Ne.symm ne_b0_o2)
 have E_145 := E_126.wr W137
 have V_146 := V_127.other W137 (Ne.symm ne_b0_o31)
 have E_147 := E_128.wr W137
 have V_148 := V_129.other W137 (Ne.symm ne_b0_o63)
 have E_149 := E_130.wr W137
 have O150 := O131.wr W137 g_b0
 have K151 := K132.wr W137 (Or.inl (List.mem_of_getElem? (i := 0) rfl))
 have F_152 : Fld Z h137 b0 "com/example/quadrille/quadrille/store/SortedTriples" "size" "J" (.long (0 : Int64)) := F_124.same W137
 have N153 := Fr.snoc X137 N134 g_b0
 have p154 : ∀ t, St p e below T137 (mkF m 37 #[.val (.ref b0)] []) t → S0 t := fun t k => p136 t (st137 t k)
 obtain ⟨fs, hr, hrun, hended, hW, hsame⟩ := X137.leave (v := none) (fun _ => rfl)
 refine ⟨_, _, p154 _ ?_, hrun, hended, _, _, rfl, ?_, ⟨_, rfl⟩, hW, hsame.mono (by decide) (by decide)⟩
 · exact X137.returnOut hx Bd.returns (hb hby d13_37) hr
 · show Q13_11 Z i0 i1 j2 b0 b1 b2 b3 h0 n0 _ T137.heap _
   rw [e137]
   exact ⟨N153, ⟨o2, o31, o63, k2, k31, k63, rfl, K151, gb_o2, sz_o2, gb_o31, sz_o31, gb_o63, sz_o63, ne_o2_o31, ne_o2_o63, ne_o31_o63, E_138, F_139, F_140, F_141, F_142, F_143, F_152, V_144, E_145, O_14, V_146, E_147, V_148, E_149⟩⟩
theorem ef11 (m : MethodId) (x0 : Addr) : entryFrame m #[(.ref x0)] 1 = mkF m 0 #[.val (.ref x0)] [] := by first | (simp [entryFrame, mkF, argsToLocals, Value.category]; done) | rfl
theorem d14_0 : decode prog_155_method_4_code 0 = .ok (.aload_n 0, 1) := by decide +kernel
theorem d14_1 : decode prog_155_method_4_code 1 = .ok (.getfield 26, 3) := by decide +kernel
theorem d14_4 : decode prog_155_method_4_code 4 = .ok (.lreturn, 1) := by decide +kernel
def Q14_12 (Z : State) (j0 : Int64) (b0 : Addr) (h0 : Heap) (n0 : Nat) (v : Option Value) (h : Heap) (L : List Loc) : Prop := Fr n0 L ∧ h = h0 ∧ ((v = some (.long j0)))
set_option maxRecDepth 65536 in
set_option maxHeartbeats 40000000 in
theorem rm14_12 (l : Launch) (Z : State) (a0 : Array Value) (hw : ∀ d ∈ tables_1, d.before a0 Z = true) (ws : List Jvm.Cond) (j0 : Int64) (b0 : Addr) (h0 : Heap) (n0 : Nat) (O0 : Old Z n0 h0)  (g_b0 : n0 ≤ b0) (f0 : Exa Z h0 b0 "com/example/quadrille/quadrille/store/SortedTriples") (f1 : Fld Z h0 b0 "com/example/quadrille/quadrille/store/SortedTriples" "size" "J" (.long j0)) :
    MetFree l M10 (head1 (Jvm.Cond.code M10 prog_155_method_4_code 1 (some .long) :: ws) ({ frames := 0, cells := 0, slots := 0, locals := 0 } : Room)) (fun a U => a = #[(.ref b0)] ∧ Z.Warmed39 U.vm ∧ U.heap = h0) (fun _ _ _ _ _ => True) (fun _ U o U' => ∃ v L, o = .returned v ∧ Q14_12 Z j0 b0 h0 n0 v U'.heap L ∧ FrameEnd U o U' L ({ frames := 0, cells := 0, slots := 0, locals := 0 } : Room).cells ({ frames := 0, cells := 0, slots := 0, locals := 0 } : Room).slots) := by
 refine MetFree.of_bodySF (plainFor_of_name pn1) hisR ?_
 intro p e s m args below meth c s₁ Bd hml0 hP hK
 obtain ⟨rfl, hZ, hh⟩ := hP
 have hx := Bd.exec
 have hby := Bd.bytes
 have hml : c.maxLocals = 1 := hml0
 have hown : s.vm.findClass "com/example/quadrille/quadrille/store/SortedTriples" = some m.cls := findClass_of_methodNamed Bd.named
 have hnm := (name_of_methodNamed Bd.named Bd.method).1
 have X0 : Stand p l e ({ frames := 0, cells := 0, slots := 0, locals := 0 } : Room) s m #[(.ref b0)] below meth c s₁ [] 0 0 := Stand.of_body Bd
 have e0 : s₁.heap = h0 := by rw [← hh, Bd.state]; rfl
 have N0 := Fr.nil n0
 let S0 : State → Prop := fun t => Steps p.tables e below (s₁.setTop (entryFrame m #[(.ref b0)] 1)) t
 have p0 : ∀ t, St p e below s₁ (mkF m 0 #[.val (.ref b0)] []) t → S0 t := fun t k => castTop (ef11 m b0) k
 have p1 : ∀ t, St p e below s₁ (mkF m 1 #[.val (.ref b0)] [(.ref b0)]) t → S0 t := fun t k => p0 t (by
   refine XS.aloadN X0.here hx rfl (hb hby d14_0) rfl rfl ?_
   exact k)
 obtain ⟨T2, X2, e2, st2⟩ := getF X0 hx hZ hown (host := "") (Or.inl (ww hw 52 rfl)) Via.refl e0 f1 (g := (mkF m 1 #[.val (.ref b0)] [(.ref b0)])) rfl rfl (hb hby d14_1)
 have p3 : ∀ t, St p e below T2 (mkF m 4 #[.val (.ref b0)] [(.long j0)]) t → S0 t := fun t k => p1 t (st2 t k)
 obtain ⟨fs, hr, hrun, hended, hW, hsame⟩ := X2.leave (v := some (.long j0)) (fun h => by rw [Bd.returns] at h; cases h)
 refine ⟨_, _, p3 _ ?_, hrun, hended, _, _, rfl, ?_, ⟨_, rfl⟩, hW, hsame.mono (by decide) (by decide)⟩
 · exact retOut X2 hx Bd.returns rfl (Or.inr (Or.inl ⟨rfl, rfl, _, rfl⟩)) (hb hby d14_4) hr
 · show Q14_12 Z j0 b0 h0 n0 _ T2.heap _
   exact ⟨N0, e2, rfl⟩
theorem pd8 : parseMethodDescriptor "()J" = some ⟨[], some .long⟩ := by decide +kernel
theorem ef12 (m : MethodId) (x0 : Addr) (x1 : Int32) (x2 : Int32) (x3 : Int32) : entryFrame m #[(.ref x0), (.int x1), (.int x2), (.int x3)] 5 = mkF m 0 #[.val (.ref x0), .val (.int x1), .val (.int x2), .val (.int x3), .unset] [] := by first | (simp [entryFrame, mkF, argsToLocals, Value.category]; done) | rfl
theorem d15_0 : decode prog_155_method_5_code 0 = .ok (.aload_n 0, 1) := by decide +kernel
theorem d15_1 : decode prog_155_method_5_code 1 = .ok (.getfield 22, 3) := by decide +kernel
theorem d15_4 : decode prog_155_method_5_code 4 = .ok (.ifCond .ne 5, 3) := by decide +kernel
theorem d15_7 : decode prog_155_method_5_code 7 = .ok (.iconst 0, 1) := by decide +kernel
theorem d15_8 : decode prog_155_method_5_code 8 = .ok (.ireturn, 1) := by decide +kernel
def Q15_13 (Z : State) (i0 : Int32) (i1 : Int32) (i2 : Int32) (b0 : Addr) (b1 : Addr) (b2 : Addr) (k3 : ClassId) (k4 : ClassId) (h0 : Heap) (n0 : Nat) (v : Option Value) (h : Heap) (L : List Loc) : Prop := Fr n0 L ∧ h = h0 ∧ ((v = some (.int (0 : Int32))))
set_option maxRecDepth 65536 in
set_option maxHeartbeats 40000000 in
theorem rm15_13 (l : Launch) (Z : State) (a0 : Array Value) (hw : ∀ d ∈ tables_1, d.before a0 Z = true) (ws : List Jvm.Cond) (i0 : Int32) (i1 : Int32) (i2 : Int32) (b0 : Addr) (b1 : Addr) (b2 : Addr) (k3 : ClassId) (k4 : ClassId) (h0 : Heap) (n0 : Nat) (O0 : Old Z n0 h0)  (g_b0 : n0 ≤ b0) (g_b1 : n0 ≤ b1) (g_b2 : n0 ≤ b2) (ne_b0_b1 : b0 ≠ b1) (ne_b0_b2 : b0 ≠ b2) (ne_b1_b2 : b1 ≠ b2) (f0 : Exa Z h0 b0 "com/example/quadrille/quadrille/store/SortedTriples") (f1 : Fld Z h0 b0 "com/example/quadrille/quadrille/store/SortedTriples" "blocks" "[[I" (.ref b1)) (f2 : Fld Z h0 b0 "com/example/quadrille/quadrille/store/SortedTriples" "counts" "[I" (.ref b2)) (f3 : Fld Z h0 b0 "com/example/quadrille/quadrille/store/SortedTriples" "blockCount" "I" (.int (0 : Int32))) (f4 : Arv Z h0 b1 k3 (.array .int) (4 : Int32) [.null, .null, .null, .null] .null) (f5 : Exa Z h0 b1 "[[I") (f6 : Arv Z h0 b2 k4 .int (4 : Int32) [(.int (0 : Int32)), (.int (0 : Int32)), (.int (0 : Int32)), (.int (0 : Int32))] (.int (0 : Int32))) (f7 : Exa Z h0 b2 "[I") :
    MetFree l M11 (head1 (Jvm.Cond.code M11 prog_155_method_5_code 5 (some .boolean) :: ws) ({ frames := 0, cells := 0, slots := 0, locals := 0 } : Room)) (fun a U => a = #[(.ref b0), (.int i0), (.int i1), (.int i2)] ∧ Z.Warmed39 U.vm ∧ U.heap = h0) (fun _ _ _ _ _ => True) (fun _ U o U' => ∃ v L, o = .returned v ∧ Q15_13 Z i0 i1 i2 b0 b1 b2 k3 k4 h0 n0 v U'.heap L ∧ FrameEnd U o U' L ({ frames := 0, cells := 0, slots := 0, locals := 0 } : Room).cells ({ frames := 0, cells := 0, slots := 0, locals := 0 } : Room).slots) := by
 refine MetFree.of_bodySF (plainFor_of_name pn1) hisR ?_
 intro p e s m args below meth c s₁ Bd hml0 hP hK
 obtain ⟨rfl, hZ, hh⟩ := hP
 have hx := Bd.exec
 have hby := Bd.bytes
 have hml : c.maxLocals = 5 := hml0
 have hown : s.vm.findClass "com/example/quadrille/quadrille/store/SortedTriples" = some m.cls := findClass_of_methodNamed Bd.named
 have hnm := (name_of_methodNamed Bd.named Bd.method).1
 have X0 : Stand p l e ({ frames := 0, cells := 0, slots := 0, locals := 0 } : Room) s m #[(.ref b0), (.int i0), (.int i1), (.int i2)] below meth c s₁ [] 0 0 := Stand.of_body Bd
 have e0 : s₁.heap = h0 := by rw [← hh, Bd.state]; rfl
 have N0 := Fr.nil n0
 let S0 : State → Prop := fun t => Steps p.tables e below (s₁.setTop (entryFrame m #[(.ref b0), (.int i0), (.int i1), (.int i2)] 5)) t
 let Ls1 : Array Slot := #[.val (.ref b0), .val (.int i0), .val (.int i1), .val (.int i2), .unset]
 have p0 : ∀ t, St p e below s₁ (mkF m 0 Ls1 []) t → S0 t := fun t k => castTop (ef12 m b0 i0 i1 i2) k
 have p2 : ∀ t, St p e below s₁ (mkF m 1 Ls1 [(.ref b0)]) t → S0 t := fun t k => p0 t (by
   refine XS.aloadN X0.here hx rfl (hb hby d15_0) rfl rfl ?_
   exact k)
 obtain ⟨T3, X3, e3, st3⟩ := getF X0 hx hZ hown (host := "") (Or.inl (ww hw 30 rfl)) Via.refl e0 f3 (g := (mkF m 1 Ls1 [(.ref b0)])) rfl rfl (hb hby d15_1)
 have p4 : ∀ t, St p e below T3 (mkF m 4 Ls1 [(.int (0 : Int32))]) t → S0 t := fun t k => p2 t (st3 t k)
 have p5 : ∀ t, St p e below T3 (mkF m 8 Ls1 [(.int (0 : Int32))]) t → S0 t := fun t k => p4 t (by
   refine XS.ifNo X3.here hx rfl (hb hby d15_4) rfl ((if0 _ _).trans (teq (by decide : (0 : Int32) = (0 : Int32))).2) ?_
   refine XT.iconstV X3.here hx rfl (0 : Int32) (hb hby d15_7) (by decide) ?_
   exact k)
 obtain ⟨fs, hr, hrun, hended, hW, hsame⟩ := X3.leave (v := some (.int (0 : Int32))) (fun h => by rw [Bd.returns] at h; cases h)
 refine ⟨_, _, p5 _ ?_, hrun, hended, _, _, rfl, ?_, ⟨_, rfl⟩, hW, hsame.mono (by decide) (by decide)⟩
 · exact retOut X3 hx Bd.returns rfl (Or.inl ⟨rfl, by simp, _, rfl⟩) (hb hby d15_8) hr
 · show Q15_13 Z i0 i1 i2 b0 b1 b2 k3 k4 h0 n0 _ T3.heap _
   exact ⟨N0, e3, rfl⟩
theorem d15_9 : decode prog_155_method_5_code 9 = .ok (.aload_n 0, 1) := by decide +kernel
theorem d15_10 : decode prog_155_method_5_code 10 = .ok (.iload_n 1, 1) := by decide +kernel
theorem d15_11 : decode prog_155_method_5_code 11 = .ok (.iload_n 2, 1) := by decide +kernel
theorem d15_12 : decode prog_155_method_5_code 12 = .ok (.iload_n 3, 1) := by decide +kernel
theorem d15_13 : decode prog_155_method_5_code 13 = .ok (.invokevirtual 37, 3) := by decide +kernel
theorem d15_16 : decode prog_155_method_5_code 16 = .ok (.istore 4, 2) := by decide +kernel
theorem d15_18 : decode prog_155_method_5_code 18 = .ok (.aload_n 0, 1) := by decide +kernel
theorem d15_19 : decode prog_155_method_5_code 19 = .ok (.getfield 11, 3) := by decide +kernel
theorem d15_22 : decode prog_155_method_5_code 22 = .ok (.iload 4, 2) := by decide +kernel
theorem d15_24 : decode prog_155_method_5_code 24 = .ok (.aaload, 1) := by decide +kernel
theorem d15_25 : decode prog_155_method_5_code 25 = .ok (.aload_n 0, 1) := by decide +kernel
theorem d15_26 : decode prog_155_method_5_code 26 = .ok (.getfield 15, 3) := by decide +kernel
theorem d15_29 : decode prog_155_method_5_code 29 = .ok (.iload 4, 2) := by decide +kernel
theorem d15_31 : decode prog_155_method_5_code 31 = .ok (.iaload, 1) := by decide +kernel
theorem d15_32 : decode prog_155_method_5_code 32 = .ok (.iload_n 1, 1) := by decide +kernel
theorem d15_33 : decode prog_155_method_5_code 33 = .ok (.iload_n 2, 1) := by decide +kernel
theorem d15_34 : decode prog_155_method_5_code 34 = .ok (.iload_n 3, 1) := by decide +kernel
theorem d15_35 : decode prog_155_method_5_code 35 = .ok (.invokestatic 41, 3) := by decide +kernel
theorem d15_38 : decode prog_155_method_5_code 38 = .ok (.ifCond .lt 7, 3) := by decide +kernel
theorem d15_45 : decode prog_155_method_5_code 45 = .ok (.iconst 0, 1) := by decide +kernel
theorem d15_46 : decode prog_155_method_5_code 46 = .ok (.ireturn, 1) := by decide +kernel
theorem d15_41 : decode prog_155_method_5_code 41 = .ok (.iconst 1, 1) := by decide +kernel
theorem d15_42 : decode prog_155_method_5_code 42 = .ok (.goto 4, 3) := by decide +kernel
def Q15_14 (Z : State) (i0 : Int32) (i1 : Int32) (i2 : Int32) (i3 : Int32) (i4 : Int32) (i5 : Int32) (i6 : Int32) (i7 : Int32) (i8 : Int32) (i9 : Int32) (i10 : Int32) (i11 : Int32) (i12 : Int32) (i13 : Int32) (i14 : Int32) (b0 : Addr) (b1 : Addr) (b2 : Addr) (b3 : Addr) (k4 : ClassId) (k5 : ClassId) (k6 : ClassId) (h0 : Heap) (n0 : Nat) (v : Option Value) (h : Heap) (L : List Loc) : Prop := Fr n0 L ∧ h = h0 ∧ ((v = some (.int (0 : Int32)) ∧ (own_cmp3 i3 i4 i5 i0 i1 i2) < (0 : Int32)) ∨ (v = some (.int (0 : Int32)) ∧ ¬ ((own_cmp3 i3 i4 i5 i0 i1 i2) < (0 : Int32)) ∧ (0 : Int32) < (own_cmp3 i3 i4 i5 i0 i1 i2)) ∨ (v = some (.int (1 : Int32)) ∧ ¬ ((own_cmp3 i3 i4 i5 i0 i1 i2) < (0 : Int32)) ∧ ¬ ((0 : Int32) < (own_cmp3 i3 i4 i5 i0 i1 i2))))
set_option maxRecDepth 65536 in
set_option maxHeartbeats 40000000 in
theorem rm15_14 (l : Launch) (Z : State) (a0 : Array Value) (hw : ∀ d ∈ tables_1, d.before a0 Z = true) (ws : List Jvm.Cond) (i0 : Int32) (i1 : Int32) (i2 : Int32) (i3 : Int32) (i4 : Int32) (i5 : Int32) (i6 : Int32) (i7 : Int32) (i8 : Int32) (i9 : Int32) (i10 : Int32) (i11 : Int32) (i12 : Int32) (i13 : Int32) (i14 : Int32) (b0 : Addr) (b1 : Addr) (b2 : Addr) (b3 : Addr) (k4 : ClassId) (k5 : ClassId) (k6 : ClassId) (h0 : Heap) (n0 : Nat) (O0 : Old Z n0 h0)  (g_b0 : n0 ≤ b0) (g_b1 : n0 ≤ b1) (g_b2 : n0 ≤ b2) (g_b3 : n0 ≤ b3) (ne_b0_b1 : b0 ≠ b1) (ne_b0_b2 : b0 ≠ b2) (ne_b0_b3 : b0 ≠ b3) (ne_b1_b2 : b1 ≠ b2) (ne_b1_b3 : b1 ≠ b3) (ne_b2_b3 : b2 ≠ b3) (f0 : Exa Z h0 b0 "com/example/quadrille/quadrille/store/SortedTriples") (f1 : Fld Z h0 b0 "com/example/quadrille/quadrille/store/SortedTriples" "blocks" "[[I" (.ref b1)) (f2 : Fld Z h0 b0 "com/example/quadrille/quadrille/store/SortedTriples" "counts" "[I" (.ref b2)) (f3 : Fld Z h0 b0 "com/example/quadrille/quadrille/store/SortedTriples" "blockCount" "I" (.int (1 : Int32))) (f4 : Arv Z h0 b1 k4 (.array .int) (4 : Int32) [(.ref b3), .null, .null, .null] .null) (f5 : Exa Z h0 b1 "[[I") (f6 : Arv Z h0 b2 k5 .int (4 : Int32) [(.int (1 : Int32)), (.int (0 : Int32)), (.int (0 : Int32)), (.int (0 : Int32))] (.int (0 : Int32))) (f7 : Exa Z h0 b2 "[I") (f8 : Arv Z h0 b3 k6 .int (12 : Int32) [(.int i3), (.int i4), (.int i5), (.int i6), (.int i7), (.int i8), (.int i9), (.int i10), (.int i11), (.int i12), (.int i13), (.int i14)] (.int (0 : Int32))) (f9 : Exa Z h0 b3 "[I") :
    MetFree l M11 (head1 (Jvm.Cond.code M11 prog_155_method_5_code 5 (some .boolean) :: ws) ({ frames := 3, cells := 0, slots := 0, locals := 51 } : Room)) (fun a U => a = #[(.ref b0), (.int i0), (.int i1), (.int i2)] ∧ Z.Warmed39 U.vm ∧ U.heap = h0) (fun _ _ _ _ _ => True) (fun _ U o U' => ∃ v L, o = .returned v ∧ Q15_14 Z i0 i1 i2 i3 i4 i5 i6 i7 i8 i9 i10 i11 i12 i13 i14 b0 b1 b2 b3 k4 k5 k6 h0 n0 v U'.heap L ∧ FrameEnd U o U' L ({ frames := 3, cells := 0, slots := 0, locals := 51 } : Room).cells ({ frames := 3, cells := 0, slots := 0, locals := 51 } : Room).slots) := by
 refine MetFree.of_bodySF (plainFor_of_name pn1) hisR ?_
 intro p e s m args below meth c s₁ Bd hml0 hP hK
 obtain ⟨rfl, hZ, hh⟩ := hP
 have hx := Bd.exec
 have hby := Bd.bytes
 have hml : c.maxLocals = 5 := hml0
 have hown : s.vm.findClass "com/example/quadrille/quadrille/store/SortedTriples" = some m.cls := findClass_of_methodNamed Bd.named
 have hnm := (name_of_methodNamed Bd.named Bd.method).1
 have X0 : Stand p l e ({ frames := 3, cells := 0, slots := 0, locals := 51 } : Room) s m #[(.ref b0), (.int i0), (.int i1), (.int i2)] below meth c s₁ [] 0 0 := Stand.of_body Bd
 have e0 : s₁.heap = h0 := by rw [← hh, Bd.state]; rfl
 have N0 := Fr.nil n0
 let S0 : State → Prop := fun t => Steps p.tables e below (s₁.setTop (entryFrame m #[(.ref b0), (.int i0), (.int i1), (.int i2)] 5)) t
 let Ls1 : Array Slot := #[.val (.ref b0), .val (.int i0), .val (.int i1), .val (.int i2), .unset]
 have p0 : ∀ t, St p e below s₁ (mkF m 0 Ls1 []) t → S0 t := fun t k => castTop (ef12 m b0 i0 i1 i2) k
 have p2 : ∀ t, St p e below s₁ (mkF m 1 Ls1 [(.ref b0)]) t → S0 t := fun t k => p0 t (by
   refine XS.aloadN X0.here hx rfl (hb hby d15_0) rfl rfl ?_
   exact k)
 obtain ⟨T3, X3, e3, st3⟩ := getF X0 hx hZ hown (host := "") (Or.inl (ww hw 30 rfl)) Via.refl e0 f3 (g := (mkF m 1 Ls1 [(.ref b0)])) rfl rfl (hb hby d15_1)
 have p4 : ∀ t, St p e below T3 (mkF m 4 Ls1 [(.int (1 : Int32))]) t → S0 t := fun t k => p2 t (st3 t k)
 have p5 : ∀ t, St p e below T3 (mkF m 13 Ls1 [(.int i2), (.int i1), (.int i0), (.ref b0)]) t → S0 t := fun t k => p4 t (by
   refine XS.ifYes X3.here hx rfl (pc0 := 4) (pc' := 9) rfl (hb hby d15_4) rfl ((if0 _ _).trans (feq (by decide : ¬ ((1 : Int32) = (0 : Int32)))).2) (by decide) (by decide) ?_
   refine XS.aloadN X3.here hx rfl (hb hby d15_9) rfl rfl ?_
   refine XS.iloadN X3.here hx rfl (hb hby d15_10) rfl ?_
   refine XS.iloadN X3.here hx rfl (hb hby d15_11) rfl ?_
   refine XS.iloadN X3.here hx rfl (hb hby d15_12) rfl ?_
   exact k)
 obtain ⟨cqc6, qc6, qc6'⟩ := f0.cell
 obtain ⟨_, _, ⟨Tc6, Lc6, kc6, nc6⟩, -, Xc6, ⟨Lcc6, hQc6, lc6, yc6, zc6⟩, stc6⟩ := X3.privateBack hx (y := M3) hown (mvT hZ (ww hw 41 rfl)) (mvT hZ (ww hw 42 rfl)) (mvT hZ (own_sel (y := M3) (ww hw 1 rfl) (ww hw 43 rfl) (ww hw 42 rfl) (by decide))) (Cond.privateMethod_at (mvP hZ (ww hw 43 rfl) (args := #[]))) (mvT hZ (ww hw 44 rfl)) (by decide) (backOf (W := 0) (rm6_4 l Z a0 hw [] i0 i1 i2 b0 h0 n0 O0  g_b0 f0 f3) hZ (ww hw 44 rfl) (ww hw 2 rfl) (by decide) (by decide)) (g := (mkF m 13 Ls1 [(.int i2), (.int i1), (.int i0), (.ref b0)])) rfl (by rw [hml]; rfl) (Steps.refl _) (a := b0) (by rw [e3]; exact qc6) qc6' (argsL := [(.int i0), (.int i1), (.int i2)]) (rest := []) (lenOf pd2 rfl) rfl (by show 2 * 0 + _ ≤ _; exact Nat.le_of_eq rfl) (hb hby d15_13) (fun _ _ => ⟨rfl, e3, (by decide : 0 + 0 ≤ _), (by decide : 0 + 0 ≤ _)⟩)
 dsimp only [Pt.U, Pt.locs, Pt.cells, Pt.slots] at Xc6 lc6 yc6 zc6 stc6 hQc6
 subst lc6 yc6 zc6
 obtain ⟨Nqc6, ec6, hAc6⟩ := hQc6
 have Nc6 := Fr.app N0 Nqc6
 obtain rfl := hAc6
 have p7 : ∀ t, St p e below Tc6 (mkF m 16 Ls1 [(.int (0 : Int32))]) t → S0 t := fun t k => p5 t (stc6.trans k)
 let Ls8 : Array Slot := #[.val (.ref b0), .val (.int i0), .val (.int i1), .val (.int i2), .val (.int (0 : Int32))]
 have p9 : ∀ t, St p e below Tc6 (mkF m 19 Ls8 [(.ref b0)]) t → S0 t := fun t k => p7 t (by
   refine XS.istore Xc6.here hx rfl (hb hby d15_16) rfl (l' := Ls8) rfl ?_
   refine XS.aloadN Xc6.here hx rfl (hb hby d15_18) rfl rfl ?_
   exact k)
 obtain ⟨T10, X10, e10, st10⟩ := getF Xc6 hx hZ hown (host := "") (Or.inl (ww hw 11 rfl)) Via.refl ec6 f1 (g := (mkF m 19 Ls8 [(.ref b0)])) rfl rfl (hb hby d15_19)
 have p11 : ∀ t, St p e below T10 (mkF m 22 Ls8 [(.ref b1)]) t → S0 t := fun t k => p9 t (st10 t k)
 have p12 : ∀ t, St p e below T10 (mkF m 24 Ls8 [(.int (0 : Int32)), (.ref b1)]) t → S0 t := fun t k => p11 t (by
   refine XS.iload X10.here hx rfl (hb hby d15_22) rfl ?_
   exact k)
 obtain ⟨cl13, Ar13, -, Sz13, -, Hs13, -⟩ := id f4
 have hin13 : ¬ ((0 : Int32) < 0 ∨ cl13.slots.size ≤ (0 : Int32).toNatClampNeg) := inb_of Sz13 ⟨by decide, by decide⟩
 have hat13 : cl13.slots[(0 : Int32).toNatClampNeg]? = some (.ref b3) := Hs13.at hin13 rfl
 have p14 : ∀ t, St p e below T10 (mkF m 26 Ls8 [(.ref b0), (.ref b3)]) t → S0 t := fun t k => p12 t (by
   refine X10.aaload hx (j := (0 : Int32)) (v := (.ref b3)) (by rw [e10]; exact Ar13.1) (State.isArrayOf_alike hZ.alike Ar13.2.1) rfl Ar13.2.2 hin13 hat13 (g := (mkF m 24 Ls8 [(.int (0 : Int32)), (.ref b1)])) rfl rfl (hb hby d15_24) _ ?_
   refine XS.aloadN X10.here hx rfl (hb hby d15_25) rfl rfl ?_
   exact k)
 obtain ⟨T15, X15, e15, st15⟩ := getF X10 hx hZ hown (host := "") (Or.inl (ww hw 14 rfl)) Via.refl e10 f2 (g := (mkF m 26 Ls8 [(.ref b0), (.ref b3)])) rfl rfl (hb hby d15_26)
 have p16 : ∀ t, St p e below T15 (mkF m 29 Ls8 [(.ref b2), (.ref b3)]) t → S0 t := fun t k => p14 t (st15 t k)
 have p17 : ∀ t, St p e below T15 (mkF m 31 Ls8 [(.int (0 : Int32)), (.ref b2), (.ref b3)]) t → S0 t := fun t k => p16 t (by
   refine XS.iload X15.here hx rfl (hb hby d15_29) rfl ?_
   exact k)
 obtain ⟨cl18, Ar18, -, Sz18, -, Hs18, -⟩ := id f6
 have hin18 : ¬ ((0 : Int32) < 0 ∨ cl18.slots.size ≤ (0 : Int32).toNatClampNeg) := inb_of Sz18 ⟨by decide, by decide⟩
 have hat18 : cl18.slots[(0 : Int32).toNatClampNeg]? = some (.int (1 : Int32)) := Hs18.at hin18 rfl
 have p19 : ∀ t, St p e below T15 (mkF m 35 Ls8 [(.int i2), (.int i1), (.int i0), (.int (1 : Int32)), (.ref b3)]) t → S0 t := fun t k => p17 t (by
   refine X15.iaload hx (j := (0 : Int32)) (v := (.int (1 : Int32))) (by rw [e15]; exact Ar18.1) (State.isArrayOf_alike hZ.alike Ar18.2.1) Ar18.2.2 hin18 hat18 (g := (mkF m 31 Ls8 [(.int (0 : Int32)), (.ref b2), (.ref b3)])) rfl rfl (hb hby d15_31) _ ?_
   refine XS.iloadN X15.here hx rfl (hb hby d15_32) rfl ?_
   refine XS.iloadN X15.here hx rfl (hb hby d15_33) rfl ?_
   refine XS.iloadN X15.here hx rfl (hb hby d15_34) rfl ?_
   exact k)
 obtain ⟨_, _, ⟨Tc20, Lc20, kc20, nc20⟩, -, Xc20, ⟨Lcc20, hQc20, lc20, yc20, zc20⟩, stc20⟩ := Jvm.LawKit.callS X15 hx (y := M4) hown (mvT hZ (ww hw 45 rfl)) (mvT hZ (ww hw 46 rfl)) (mvT hZ (ww hw 2 rfl)) (mvT hZ (ww hw 47 rfl)) (by decide) (backOf (W := 0) (rm7_8 l Z a0 hw [] i0 i1 i2 i3 i4 i5 i6 i7 i8 i9 i10 i11 i12 i13 i14 b3 k6 h0 n0 O0  g_b3 f8 f9) hZ (ww hw 47 rfl) (ww hw 2 rfl) (by decide) (by decide)) (g := (mkF m 35 Ls8 [(.int i2), (.int i1), (.int i0), (.int (1 : Int32)), (.ref b3)])) rfl (by rw [hml]; rfl) (argsL := [(.ref b3), (.int (1 : Int32)), (.int i0), (.int i1), (.int i2)]) (rest := []) (lenOf pd3 rfl) rfl (by show 2 * 0 + _ ≤ _; exact Nat.le_of_eq rfl) (hb hby d15_35) (fun _ _ => ⟨rfl, e15, (by decide : 0 + 0 ≤ _), (by decide : 0 + 0 ≤ _)⟩)
 dsimp only [Pt.U, Pt.locs, Pt.cells, Pt.slots] at Xc20 lc20 yc20 zc20 stc20 hQc20
 subst lc20 yc20 zc20
 obtain ⟨Nqc20, ec20, hAc20⟩ := hQc20
 have Nc20 := Fr.app Nc6 Nqc20
 rcases hAc20 with ⟨rfl, g21⟩ | ⟨rfl, g22, g23⟩ | ⟨rfl, g24, g25⟩
 ·
  have p26 : ∀ t, St p e below Tc20 (mkF m 38 Ls8 [(.int (-2 : Int32))]) t → S0 t := fun t k => p19 t (stc20 t k)
  have p27 : ∀ t, St p e below Tc20 (mkF m 46 Ls8 [(.int (0 : Int32))]) t → S0 t := fun t k => p26 t (by
    refine XS.ifYes Xc20.here hx rfl (pc0 := 38) (pc' := 45) rfl (hb hby d15_38) rfl ((if0 _ _).trans (tlt (by decide : (-2 : Int32) < (0 : Int32))).1) (by decide) (by decide) ?_
    refine XT.iconstV Xc20.here hx rfl (0 : Int32) (hb hby d15_45) (by decide) ?_
    exact k)
  obtain ⟨fs, hr, hrun, hended, hW, hsame⟩ := Xc20.leave (v := some (.int (0 : Int32))) (fun h => by rw [Bd.returns] at h; cases h)
  refine ⟨_, _, p27 _ ?_, hrun, hended, _, _, rfl, ?_, ⟨_, rfl⟩, hW, hsame.mono (by decide) (by decide)⟩
  · exact retOut Xc20 hx Bd.returns rfl (Or.inl ⟨rfl, by simp, _, rfl⟩) (hb hby d15_46) hr
  · show Q15_14 Z i0 i1 i2 i3 i4 i5 i6 i7 i8 i9 i10 i11 i12 i13 i14 b0 b1 b2 b3 k4 k5 k6 h0 n0 _ Tc20.heap _
    exact ⟨Nc20, ec20, (Or.inl ⟨rfl, g21⟩)⟩
 ·
  have p28 : ∀ t, St p e below Tc20 (mkF m 38 Ls8 [(.int (-1 : Int32))]) t → S0 t := fun t k => p19 t (stc20 t k)
  have p29 : ∀ t, St p e below Tc20 (mkF m 46 Ls8 [(.int (0 : Int32))]) t → S0 t := fun t k => p28 t (by
    refine XS.ifYes Xc20.here hx rfl (pc0 := 38) (pc' := 45) rfl (hb hby d15_38) rfl ((if0 _ _).trans (tlt (by decide : (-1 : Int32) < (0 : Int32))).1) (by decide) (by decide) ?_
    refine XT.iconstV Xc20.here hx rfl (0 : Int32) (hb hby d15_45) (by decide) ?_
    exact k)
  obtain ⟨fs, hr, hrun, hended, hW, hsame⟩ := Xc20.leave (v := some (.int (0 : Int32))) (fun h => by rw [Bd.returns] at h; cases h)
  refine ⟨_, _, p29 _ ?_, hrun, hended, _, _, rfl, ?_, ⟨_, rfl⟩, hW, hsame.mono (by decide) (by decide)⟩
  · exact retOut Xc20 hx Bd.returns rfl (Or.inl ⟨rfl, by simp, _, rfl⟩) (hb hby d15_46) hr
  · show Q15_14 Z i0 i1 i2 i3 i4 i5 i6 i7 i8 i9 i10 i11 i12 i13 i14 b0 b1 b2 b3 k4 k5 k6 h0 n0 _ Tc20.heap _
    exact ⟨Nc20, ec20, (Or.inr (Or.inl ⟨rfl, g22, g23⟩))⟩
 ·
  have p30 : ∀ t, St p e below Tc20 (mkF m 38 Ls8 [(.int (0 : Int32))]) t → S0 t := fun t k => p19 t (stc20 t k)
  have p31 : ∀ t, St p e below Tc20 (mkF m 46 Ls8 [(.int (1 : Int32))]) t → S0 t := fun t k => p30 t (by
    refine XS.ifNo Xc20.here hx rfl (hb hby d15_38) rfl ((if0 _ _).trans (flt (by decide : ¬ ((0 : Int32) < (0 : Int32)))).1) ?_
    refine XT.iconstV Xc20.here hx rfl (1 : Int32) (hb hby d15_41) (by decide) ?_
    refine XS.goto Xc20.here hx rfl (pc0 := 42) (pc' := 46) rfl (hb hby d15_42) (by decide) (by decide) ?_
    exact k)
  obtain ⟨fs, hr, hrun, hended, hW, hsame⟩ := Xc20.leave (v := some (.int (1 : Int32))) (fun h => by rw [Bd.returns] at h; cases h)
  refine ⟨_, _, p31 _ ?_, hrun, hended, _, _, rfl, ?_, ⟨_, rfl⟩, hW, hsame.mono (by decide) (by decide)⟩
  · exact retOut Xc20 hx Bd.returns rfl (Or.inl ⟨rfl, by simp, _, rfl⟩) (hb hby d15_46) hr
  · show Q15_14 Z i0 i1 i2 i3 i4 i5 i6 i7 i8 i9 i10 i11 i12 i13 i14 b0 b1 b2 b3 k4 k5 k6 h0 n0 _ Tc20.heap _
    exact ⟨Nc20, ec20, (Or.inr (Or.inr (⟨rfl, g24, g25⟩)))⟩
theorem ar7 {x0 : Int32} {x1 : Int32} {x2 : Int32} (h0 : (own_cmp3 x0 x1 x2 x0 x1 x2) < (0 : Int32)) : False := by
  have q1_ := ltI h0
  have l2_ := rng32 x0
  have l3_ := rng32 x1
  have l4_ := rng32 x2
  have l5_ := own_cmp3_s x0 x1 x2
  have l6_ := lI0
  omega
theorem ar8 {x0 : Int32} {x1 : Int32} {x2 : Int32} (h0 : (0 : Int32) < (own_cmp3 x0 x1 x2 x0 x1 x2)) : False := by
  have q1_ := ltI h0
  have l2_ := lI0
  have l3_ := rng32 x0
  have l4_ := rng32 x1
  have l5_ := rng32 x2
  have l6_ := own_cmp3_s x0 x1 x2
  omega
theorem ar9 {x0 : Int32} {x1 : Int32} {x2 : Int32} {x3 : Int32} {x4 : Int32} (h0 : (own_cmp3 x0 x1 x2 x2 x3 x4) < (0 : Int32)) (h1 : ¬ ((0 : Int32) = (own_isz (own_cmp3 x2 x3 x4 x0 x1 x2)))) : False := by
  have q1_ := ltI h0
  have q2_ := neI h1
  have l3_ := rng32 x0
  have l4_ := rng32 x1
  have l5_ := rng32 x2
  have l6_ := rng32 x3
  have l7_ := rng32 x4
  have l8_ := own_cmp3_r x0 x1 x2 x2 x3 x4
  have l9_ := lI0
  have l10_ := own_cmp3_r x2 x3 x4 x0 x1 x2
  have l10a_ := own_cmp3_a x2 x3 x4 x0 x1 x2
  have l11_ := own_c_isz (own_cmp3 x2 x3 x4 x0 x1 x2)
  omega
theorem ar10 {x0 : Int32} {x1 : Int32} {x2 : Int32} {x3 : Int32} {x4 : Int32} (h0 : (0 : Int32) < (own_cmp3 x0 x1 x2 x2 x3 x4)) (h1 : ¬ ((0 : Int32) = (own_isz (own_cmp3 x2 x3 x4 x0 x1 x2)))) : False := by
  have q1_ := ltI h0
  have q2_ := neI h1
  have l3_ := lI0
  have l4_ := rng32 x0
  have l5_ := rng32 x1
  have l6_ := rng32 x2
  have l7_ := rng32 x3
  have l8_ := rng32 x4
  have l9_ := own_cmp3_r x0 x1 x2 x2 x3 x4
  have l10_ := own_cmp3_r x2 x3 x4 x0 x1 x2
  have l10a_ := own_cmp3_a x2 x3 x4 x0 x1 x2
  have l11_ := own_c_isz (own_cmp3 x2 x3 x4 x0 x1 x2)
  omega
theorem ar11 {x0 : Int32} {x1 : Int32} {x2 : Int32} {x3 : Int32} {x4 : Int32} (h0 : ¬ ((own_cmp3 x0 x1 x2 x2 x3 x4) < (0 : Int32))) (h1 : ¬ ((0 : Int32) < (own_cmp3 x0 x1 x2 x2 x3 x4))) (h2 : ¬ ((1 : Int32) = (own_isz (own_cmp3 x2 x3 x4 x0 x1 x2)))) : False := by
  have q1_ := nltI h0
  have q2_ := nltI h1
  have q3_ := neI h2
  have l4_ := rng32 x0
  have l5_ := rng32 x1
  have l6_ := rng32 x2
  have l7_ := rng32 x3
  have l8_ := rng32 x4
  have l9_ := own_cmp3_r x0 x1 x2 x2 x3 x4
  have l10_ := lI0
  have l11_ := lI1
  have l12_ := own_cmp3_r x2 x3 x4 x0 x1 x2
  have l12a_ := own_cmp3_a x2 x3 x4 x0 x1 x2
  have l13_ := own_c_isz (own_cmp3 x2 x3 x4 x0 x1 x2)
  omega
theorem ef13 (m : MethodId) (x0 : Addr) : entryFrame m #[(.ref x0)] 1 = mkF m 0 #[.val (.ref x0)] [] := by first | (simp [entryFrame, mkF, argsToLocals, Value.category]; done) | rfl
theorem d11_0 : decode prog_155_method_3_code 0 = .ok (.aload_n 0, 1) := by decide +kernel
theorem d11_1 : decode prog_155_method_3_code 1 = .ok (.iconst 1, 1) := by decide +kernel
theorem d11_2 : decode prog_155_method_3_code 2 = .ok (.putfield 30, 3) := by decide +kernel
theorem d11_5 : decode prog_155_method_3_code 5 = .ok (.new 1, 3) := by decide +kernel
theorem d11_8 : decode prog_155_method_3_code 8 = .ok (.dup, 1) := by decide +kernel
theorem d11_9 : decode prog_155_method_3_code 9 = .ok (.aload_n 0, 1) := by decide +kernel
theorem d11_10 : decode prog_155_method_3_code 10 = .ok (.getfield 11, 3) := by decide +kernel
theorem d11_13 : decode prog_155_method_3_code 13 = .ok (.aload_n 0, 1) := by decide +kernel
theorem d11_14 : decode prog_155_method_3_code 14 = .ok (.getfield 15, 3) := by decide +kernel
theorem d11_17 : decode prog_155_method_3_code 17 = .ok (.aload_n 0, 1) := by decide +kernel
theorem d11_18 : decode prog_155_method_3_code 18 = .ok (.getfield 22, 3) := by decide +kernel
theorem d11_21 : decode prog_155_method_3_code 21 = .ok (.aload_n 0, 1) := by decide +kernel
theorem d11_22 : decode prog_155_method_3_code 22 = .ok (.getfield 26, 3) := by decide +kernel
theorem ef14 (m : MethodId) (x0 : Addr) (x1 : Addr) (x2 : Addr) (x3 : Int32) (x4 : Int64) : entryFrame m #[(.ref x0), (.ref x1), (.ref x2), (.int x3), (.long x4)] 6 = mkF m 0 #[.val (.ref x0), .val (.ref x1), .val (.ref x2), .val (.int x3), .val (.long x4), .second] [] := by first | (simp [entryFrame, mkF, argsToLocals, Value.category]; done) | rfl
theorem d12_0 : decode prog_155_method_2_code 0 = .ok (.aload_n 0, 1) := by decide +kernel
theorem d12_1 : decode prog_155_method_2_code 1 = .ok (.invokespecial 3, 3) := by decide +kernel
theorem d12_4 : decode prog_155_method_2_code 4 = .ok (.aload_n 0, 1) := by decide +kernel
theorem d12_5 : decode prog_155_method_2_code 5 = .ok (.iconst 4, 1) := by decide +kernel
theorem d12_6 : decode prog_155_method_2_code 6 = .ok (.anewarray 9, 3) := by decide +kernel
theorem d12_9 : decode prog_155_method_2_code 9 = .ok (.putfield 11, 3) := by decide +kernel
theorem d12_12 : decode prog_155_method_2_code 12 = .ok (.aload_n 0, 1) := by decide +kernel
theorem d12_13 : decode prog_155_method_2_code 13 = .ok (.iconst 4, 1) := by decide +kernel
theorem d12_14 : decode prog_155_method_2_code 14 = .ok (.newarray .int, 2) := by decide +kernel
theorem d12_16 : decode prog_155_method_2_code 16 = .ok (.putfield 15, 3) := by decide +kernel
theorem d12_19 : decode prog_155_method_2_code 19 = .ok (.aload_n 0, 1) := by decide +kernel
theorem d12_20 : decode prog_155_method_2_code 20 = .ok (.iconst 4, 1) := by decide +kernel
theorem d12_21 : decode prog_155_method_2_code 21 = .ok (.newarray .boolean, 2) := by decide +kernel
theorem d12_23 : decode prog_155_method_2_code 23 = .ok (.putfield 18, 3) := by decide +kernel
theorem d12_26 : decode prog_155_method_2_code 26 = .ok (.aload_n 0, 1) := by decide +kernel
theorem d12_27 : decode prog_155_method_2_code 27 = .ok (.aload_n 1, 1) := by decide +kernel
theorem d12_28 : decode prog_155_method_2_code 28 = .ok (.putfield 11, 3) := by decide +kernel
theorem d12_31 : decode prog_155_method_2_code 31 = .ok (.aload_n 0, 1) := by decide +kernel
theorem d12_32 : decode prog_155_method_2_code 32 = .ok (.aload_n 2, 1) := by decide +kernel
theorem d12_33 : decode prog_155_method_2_code 33 = .ok (.putfield 15, 3) := by decide +kernel
theorem d12_36 : decode prog_155_method_2_code 36 = .ok (.aload_n 0, 1) := by decide +kernel
theorem d12_37 : decode prog_155_method_2_code 37 = .ok (.iload_n 3, 1) := by decide +kernel
theorem d12_38 : decode prog_155_method_2_code 38 = .ok (.putfield 22, 3) := by decide +kernel
theorem d12_41 : decode prog_155_method_2_code 41 = .ok (.aload_n 0, 1) := by decide +kernel
theorem d12_42 : decode prog_155_method_2_code 42 = .ok (.lload 4, 2) := by decide +kernel
theorem d12_44 : decode prog_155_method_2_code 44 = .ok (.putfield 26, 3) := by decide +kernel
theorem d12_47 : decode prog_155_method_2_code 47 = .ok (.aload_n 0, 1) := by decide +kernel
theorem d12_48 : decode prog_155_method_2_code 48 = .ok (.iconst 1, 1) := by decide +kernel
theorem d12_49 : decode prog_155_method_2_code 49 = .ok (.putfield 30, 3) := by decide +kernel
theorem d12_52 : decode prog_155_method_2_code 52 = .ok (.return_, 1) := by decide +kernel
def Q12_16 (Z : State) (i0 : Int32) (j1 : Int64) (b0 : Addr) (b1 : Addr) (b2 : Addr) (h0 : Heap) (n0 : Nat) (v : Option Value) (h : Heap) (L : List Loc) : Prop := Fr n0 L ∧ ((∃ (o67 : Addr) (k67 : ClassId), v = none ∧ Keep h0 h [b0] ∧ n0 ≤ o67 ∧ h0.size ≤ o67 ∧ Exa Z h b0 "com/example/quadrille/quadrille/store/SortedTriples" ∧ Fld Z h b0 "com/example/quadrille/quadrille/store/SortedTriples" "blocks" "[[I" (.ref b1) ∧ Fld Z h b0 "com/example/quadrille/quadrille/store/SortedTriples" "counts" "[I" (.ref b2) ∧ Fld Z h b0 "com/example/quadrille/quadrille/store/SortedTriples" "owned" "[Z" (.ref o67) ∧ Fld Z h b0 "com/example/quadrille/quadrille/store/SortedTriples" "shared" "Z" (.int (1 : Int32)) ∧ Fld Z h b0 "com/example/quadrille/quadrille/store/SortedTriples" "blockCount" "I" (.int i0) ∧ Fld Z h b0 "com/example/quadrille/quadrille/store/SortedTriples" "size" "J" (.long j1) ∧ Arv Z h o67 k67 .boolean (4 : Int32) [(.int (0 : Int32)), (.int (0 : Int32)), (.int (0 : Int32)), (.int (0 : Int32))] (.int (0 : Int32)) ∧ Exa Z h o67 "[Z"))
set_option maxRecDepth 65536 in
set_option maxHeartbeats 40000000 in
theorem rm12_16 (l : Launch) (Z : State) (a0 : Array Value) (hw : ∀ d ∈ tables_1, d.before a0 Z = true) (ws : List Jvm.Cond) (i0 : Int32) (j1 : Int64) (b0 : Addr) (b1 : Addr) (b2 : Addr) (h0 : Heap) (n0 : Nat) (O0 : Old Z n0 h0)  (g_b0 : n0 ≤ b0) (g_b1 : n0 ≤ b1) (g_b2 : n0 ≤ b2) (ne_b1_b2 : b1 ≠ b2) (f0 : Exa Z h0 b0 "com/example/quadrille/quadrille/store/SortedTriples") (f1 : Fld Z h0 b0 "com/example/quadrille/quadrille/store/SortedTriples" "blocks" "[[I" .null) (f2 : Fld Z h0 b0 "com/example/quadrille/quadrille/store/SortedTriples" "counts" "[I" .null) (f3 : Fld Z h0 b0 "com/example/quadrille/quadrille/store/SortedTriples" "owned" "[Z" .null) (f4 : Fld Z h0 b0 "com/example/quadrille/quadrille/store/SortedTriples" "shared" "Z" (.int (0 : Int32))) (f5 : Fld Z h0 b0 "com/example/quadrille/quadrille/store/SortedTriples" "blockCount" "I" (.int (0 : Int32))) (f6 : Fld Z h0 b0 "com/example/quadrille/quadrille/store/SortedTriples" "size" "J" (.long (0 : Int64))) :
    MetFree l M12 (head1 (Jvm.Cond.code M12 prog_155_method_2_code 6 none :: ws) ({ frames := 1, cells := 3, slots := 12, locals := 12 } : Room)) (fun a U => a = #[(.ref b0), (.ref b1), (.ref b2), (.int i0), (.long j1)] ∧ Z.Warmed39 U.vm ∧ U.heap = h0) (fun _ _ _ _ _ => True) (fun _ U o U' => ∃ v L, o = .returned v ∧ Q12_16 Z i0 j1 b0 b1 b2 h0 n0 v U'.heap L ∧ FrameEnd U o U' L ({ frames := 1, cells := 3, slots := 12, locals := 12 } : Room).cells ({ frames := 1, cells := 3, slots := 12, locals := 12 } : Room).slots) := by
 refine MetFree.of_bodySF (plainFor_of_name pn1) hisR ?_
 intro p e s m args below meth c s₁ Bd hml0 hP hK
 obtain ⟨rfl, hZ, hh⟩ := hP
 have hx := Bd.exec
 have hby := Bd.bytes
 have hml : c.maxLocals = 6 := hml0
 have hown : s.vm.findClass "com/example/quadrille/quadrille/store/SortedTriples" = some m.cls := findClass_of_methodNamed Bd.named
 have hnm := (name_of_methodNamed Bd.named Bd.method).1
 have X0 : Stand p l e ({ frames := 1, cells := 3, slots := 12, locals := 12 } : Room) s m #[(.ref b0), (.ref b1), (.ref b2), (.int i0), (.long j1)] below meth c s₁ [] 0 0 := Stand.of_body Bd
 have e0 : s₁.heap = h0 := by rw [← hh, Bd.state]; rfl
 have N0 := Fr.nil n0
 let S0 : State → Prop := fun t => Steps p.tables e below (s₁.setTop (entryFrame m #[(.ref b0), (.ref b1), (.ref b2), (.int i0), (.long j1)] 6)) t
 let Ls1 : Array Slot := #[.val (.ref b0), .val (.ref b1), .val (.ref b2), .val (.int i0), .val (.long j1), .second]
 have p0 : ∀ t, St p e below s₁ (mkF m 0 Ls1 []) t → S0 t := fun t k => castTop (ef14 m b0 b1 b2 i0 j1) k
 have p2 : ∀ t, St p e below s₁ (mkF m 1 Ls1 [(.ref b0)]) t → S0 t := fun t k => p0 t (by
   refine XS.aloadN X0.here hx rfl (hb hby d12_0) rfl rfl ?_
   exact k)
 obtain ⟨T3, X3, e3, st3⟩ := initO X0 hx hZ hown (ww hw 6 rfl) (ww hw 7 rfl) (ww hw 8 rfl) e0 (g := (mkF m 1 Ls1 [(.ref b0)])) rfl (by rw [hml]; rfl) rfl (hb hby d12_1) (by decide) (W := 0) (by show 2 * 0 + _ ≤ _; exact Nat.le_of_eq rfl) (by decide)
 have p4 : ∀ t, St p e below T3 (mkF m 4 Ls1 []) t → S0 t := fun t k => p2 t (st3 t k)
 have p5 : ∀ t, St p e below T3 (mkF m 6 Ls1 [(.int (4 : Int32)), (.ref b0)]) t → S0 t := fun t k => p4 t (by
   refine XS.aloadN X3.here hx rfl (hb hby d12_4) rfl rfl ?_
   refine XT.iconstV X3.here hx rfl (4 : Int32) (hb hby d12_5) (by decide) ?_
   exact k)
 obtain ⟨T6, h6, k6, X6, e6, E6, A6, Ea6, Ov6, st6⟩ := newRA X3 hx hZ (ty := .int) hown (by decide) (ww hw 9 rfl) (ww hw 10 rfl) e3 (g := (mkF m 6 Ls1 [(.int (4 : Int32)), (.ref b0)])) rfl (hb hby d12_6) rfl (by decide) (cap := 4) (by decide) (by decide) (by decide) (by decide) (ad := "[[I") (by decide)
 obtain ⟨o6, gq6⟩ : ∃ z, z = (h0).size := ⟨_, rfl⟩
 rw [← gq6] at A6 Ea6 st6
 have gb_o6 : n0 ≤ o6 := Nat.le_trans (own_old_le O0) (Nat.le_of_eq gq6.symm)
 have sz_o6 : h0.size ≤ o6 := Nat.le_trans ((Keep.refl h0 [b0])).1 (Nat.le_of_eq gq6.symm)
 have ne_b0_o6 : b0 ≠ o6 := Nat.ne_of_lt (Nat.lt_of_lt_of_le f0.lt (Nat.le_of_eq gq6.symm))
 have E_7 := f0.ext E6
 have F_8 := f1.ext E6
 have F_9 := f2.ext E6
 have F_10 := f3.ext E6
 have F_11 := f4.ext E6
 have F_12 := f5.ext E6
 have F_13 := f6.ext E6
 have O14 := O0.ext E6
 have K15 := (Keep.refl h0 [b0]).ext E6
 have V_16 : Arv Z h6 o6 k6 (.array .int) (4 : Int32) [.null, .null, .null, .null] .null := (Arv.new A6 (by decide)).pad (pad_rep [] .null 4)
 have E_17 : Exa Z h6 o6 "[[I" := Ea6
 have O_18 : OvrA Z k6 .int "[I" := Ov6
 have p19 : ∀ t, St p e below T6 (mkF m 9 Ls1 [(.ref o6), (.ref b0)]) t → S0 t := fun t k => p5 t (st6 t k)
 obtain ⟨T20, h20, X20, e20, W20, st20⟩ := putF X6 hx hZ hown (host := "") (Or.inl (ww hw 11 rfl)) Via.refl e6 F_8 E_7 (Or.inl (ww hw 12 rfl)) (ww hw 1 rfl) (ty := (.array (.array .int))) (by decide) rfl rfl (g := (mkF m 9 Ls1 [(.ref o6), (.ref b0)])) rfl rfl (hb hby d12_9)
 have E_21 := E_7.wr W20
 have F_22 := F_9.other W20 (Or.inr (sn0 hw))
 have F_23 := F_10.other W20 (Or.inr (sn1 hw))
 have F_24 := F_11.other W20 (Or.inr (sn2 hw))
 have F_25 := F_12.other W20 (Or.inr (sn3 hw))
 have F_26 := F_13.other W20 (Or.inr (sn4 hw))
 have V_27 := V_16.other W20 (Ne.symm ne_b0_o6)
 have E_28 := E_17.wr W20
 have O29 := O14.wr W20 g_b0
 have K30 := K15.wr W20 (Or.inl (List.mem_of_getElem? (i := 0) rfl))
 have F_31 : Fld Z h20 b0 "com/example/quadrille/quadrille/store/SortedTriples" "blocks" "[[I" (.ref o6) := F_8.same W20
 have N32 := Fr.snoc X20 N0 g_b0
 have p33 : ∀ t, St p e below T20 (mkF m 12 Ls1 []) t → S0 t := fun t k => p19 t (st20 t k)
 have p34 : ∀ t, St p e below T20 (mkF m 14 Ls1 [(.int (4 : Int32)), (.ref b0)]) t → S0 t := fun t k => p33 t (by
   refine XS.aloadN X20.here hx rfl (hb hby d12_12) rfl rfl ?_
   refine XT.iconstV X20.here hx rfl (4 : Int32) (hb hby d12_13) (by decide) ?_
   exact k)
 obtain ⟨T35, h35, k35, X35, e35, E35, A35, Ea35, st35⟩ := newPE X20 hx hZ (ww hw 13 rfl) e20 (g := (mkF m 14 Ls1 [(.int (4 : Int32)), (.ref b0)])) rfl (hb hby d12_14) rfl (by decide) (cap := 4) (by decide) (by decide) (by decide) (by decide) (ad := "[I") (by decide)
 obtain ⟨o35, gq35⟩ : ∃ z, z = (h20).size := ⟨_, rfl⟩
 rw [← gq35] at A35 Ea35 st35
 have gb_o35 : n0 ≤ o35 := Nat.le_trans (own_old_le O29) (Nat.le_of_eq gq35.symm)
 have sz_o35 : h0.size ≤ o35 := Nat.le_trans (K30).1 (Nat.le_of_eq gq35.symm)
 have ne_b0_o35 : b0 ≠ o35 := Nat.ne_of_lt (Nat.lt_of_lt_of_le E_21.lt (Nat.le_of_eq gq35.symm))
 have ne_o6_o35 : o6 ≠ o35 := Nat.ne_of_lt (Nat.lt_of_lt_of_le V_27.lt (Nat.le_of_eq gq35.symm))
 have E_36 := E_21.ext E35
 have F_37 := F_31.ext E35
 have F_38 := F_22.ext E35
 have F_39 := F_23.ext E35
 have F_40 := F_24.ext E35
 have F_41 := F_25.ext E35
 have F_42 := F_26.ext E35
 have V_43 := V_27.ext E35
 have E_44 := E_28.ext E35
 have O45 := O29.ext E35
 have K46 := K30.ext E35
 have V_47 : Arv Z h35 o35 k35 .int (4 : Int32) [(.int (0 : Int32)), (.int (0 : Int32)), (.int (0 : Int32)), (.int (0 : Int32))] (.int (0 : Int32)) := (Arv.new A35 (by decide)).pad (pad_rep [] (.int (0 : Int32)) 4)
 have E_48 : Exa Z h35 o35 "[I" := Ea35
 have p49 : ∀ t, St p e below T35 (mkF m 16 Ls1 [(.ref o35), (.ref b0)]) t → S0 t := fun t k => p34 t (st35 t k)
 obtain ⟨T50, h50, X50, e50, W50, st50⟩ := putF X35 hx hZ hown (host := "") (Or.inl (ww hw 14 rfl)) Via.refl e35 F_38 E_36 (Or.inl (ww hw 15 rfl)) (ww hw 1 rfl) (ty := (.array .int)) (by decide) rfl rfl (g := (mkF m 16 Ls1 [(.ref o35), (.ref b0)])) rfl rfl (hb hby d12_16)
 have E_51 := E_36.wr W50
 have F_52 := F_37.other W50 (Or.inr (sn5 hw))
 have F_53 := F_39.other W50 (Or.inr (sn6 hw))
 have F_54 := F_40.other W50 (Or.inr (sn7 hw))
 have F_55 := F_41.other W50 (Or.inr (sn8 hw))
 have F_56 := F_42.other W50 (Or.inr (sn9 hw))
 have V_57 := V_43.other W50 (Ne.symm ne_b0_o6)
 have E_58 := E_44.wr W50
 have V_59 := V_47.other W50 (Ne.symm ne_b0_o35)
 have E_60 := E_48.wr W50
 have O61 := O45.wr W50 g_b0
 have K62 := K46.wr W50 (Or.inl (List.mem_of_getElem? (i := 0) rfl))
 have F_63 : Fld Z h50 b0 "com/example/quadrille/quadrille/store/SortedTriples" "counts" "[I" (.ref o35) := F_38.same W50
 have N64 := Fr.snoc X50 N32 g_b0
 have p65 : ∀ t, St p e below T50 (mkF m 19 Ls1 []) t → S0 t := fun t k => p49 t (st50 t k)
 have p66 : ∀ t, St p e below T50 (mkF m 21 Ls1 [(.int (4 : Int32)), (.ref b0)]) t → S0 t := fun t k => p65 t (by
   refine XS.aloadN X50.here hx rfl (hb hby d12_19) rfl rfl ?_
   refine XT.iconstV X50.here hx rfl (4 : Int32) (hb hby d12_20) (by decide) ?_
   exact k)
 obtain ⟨T67, h67, k67, X67, e67, E67, A67, Ea67, st67⟩ := newPE X50 hx hZ (ww hw 16 rfl) e50 (g := (mkF m 21 Ls1 [(.int (4 : Int32)), (.ref b0)])) rfl (hb hby d12_21) rfl (by decide) (cap := 4) (by decide) (by decide) (by decide) (by decide) (ad := "[Z") (by decide)
 obtain ⟨o67, gq67⟩ : ∃ z, z = (h50).size := ⟨_, rfl⟩
 rw [← gq67] at A67 Ea67 st67
 have gb_o67 : n0 ≤ o67 := Nat.le_trans (own_old_le O61) (Nat.le_of_eq gq67.symm)
 have sz_o67 : h0.size ≤ o67 := Nat.le_trans (K62).1 (Nat.le_of_eq gq67.symm)
 have ne_b0_o67 : b0 ≠ o67 := Nat.ne_of_lt (Nat.lt_of_lt_of_le E_51.lt (Nat.le_of_eq gq67.symm))
 have ne_o6_o67 : o6 ≠ o67 := Nat.ne_of_lt (Nat.lt_of_lt_of_le V_57.lt (Nat.le_of_eq gq67.symm))
 have ne_o35_o67 : o35 ≠ o67 := Nat.ne_of_lt (Nat.lt_of_lt_of_le V_59.lt (Nat.le_of_eq gq67.symm))
 have E_68 := E_51.ext E67
 have F_69 := F_52.ext E67
 have F_70 := F_63.ext E67
 have F_71 := F_53.ext E67
 have F_72 := F_54.ext E67
 have F_73 := F_55.ext E67
 have F_74 := F_56.ext E67
 have V_75 := V_57.ext E67
 have E_76 := E_58.ext E67
 have V_77 := V_59.ext E67
 have E_78 := E_60.ext E67
 have O79 := O61.ext E67
 have K80 := K62.ext E67
 have V_81 : Arv Z h67 o67 k67 .boolean (4 : Int32) [(.int (0 : Int32)), (.int (0 : Int32)), (.int (0 : Int32)), (.int (0 : Int32))] (.int (0 : Int32)) := (Arv.new A67 (by decide)).pad (pad_rep [] (.int (0 : Int32)) 4)
 have E_82 : Exa Z h67 o67 "[Z" := Ea67
 have p83 : ∀ t, St p e below T67 (mkF m 23 Ls1 [(.ref o67), (.ref b0)]) t → S0 t := fun t k => p66 t (st67 t k)
 obtain ⟨T84, h84, X84, e84, W84, st84⟩ := putF X67 hx hZ hown (host := "") (Or.inl (ww hw 17 rfl)) Via.refl e67 F_71 E_68 (Or.inl (ww hw 18 rfl)) (ww hw 1 rfl) (ty := (.array .boolean)) (by decide) rfl rfl (g := (mkF m 23 Ls1 [(.ref o67), (.ref b0)])) rfl rfl (hb hby d12_23)
 have E_85 := E_68.wr W84
 have F_86 := F_69.other W84 (Or.inr (sn10 hw))
 have F_87 := F_70.other W84 (Or.inr (sn11 hw))
 have F_88 := F_72.other W84 (Or.inr (sn12 hw))
 have F_89 := F_73.other W84 (Or.inr (sn13 hw))
 have F_90 := F_74.other W84 (Or.inr (sn14 hw))
 have V_91 := V_75.other W84 (Ne.symm ne_b0_o6)
 have E_92 := E_76.wr W84
 have V_93 := V_77.other W84 (Ne.symm ne_b0_o35)
 have E_94 := E_78.wr W84
 have V_95 := V_81.other W84 (Ne.symm ne_b0_o67)
 have E_96 := E_82.wr W84
 have O97 := O79.wr W84 g_b0
 have K98 := K80.wr W84 (Or.inl (List.mem_of_getElem? (i := 0) rfl))
 have F_99 : Fld Z h84 b0 "com/example/quadrille/quadrille/store/SortedTriples" "owned" "[Z" (.ref o67) := F_71.same W84
 have N100 := Fr.snoc X84 N64 g_b0
 have p101 : ∀ t, St p e below T84 (mkF m 26 Ls1 []) t → S0 t := fun t k => p83 t (st84 t k)
 have p102 : ∀ t, St p e below T84 (mkF m 28 Ls1 [(.ref b1), (.ref b0)]) t → S0 t := fun t k => p101 t (by
   refine XS.aloadN X84.here hx rfl (hb hby d12_26) rfl rfl ?_
   refine XS.aloadN X84.here hx rfl (hb hby d12_27) rfl rfl ?_
   exact k)
 obtain ⟨T103, h103, X103, e103, W103, st103⟩ := putF X84 hx hZ hown (host := "") (Or.inl (ww hw 11 rfl)) Via.refl e84 F_86 E_85 (Or.inl (ww hw 12 rfl)) (ww hw 1 rfl) (ty := (.array (.array .int))) (by decide) rfl rfl (g := (mkF m 28 Ls1 [(.ref b1), (.ref b0)])) rfl rfl (hb hby d12_28)
 have E_104 := E_85.wr W103
 have F_105 := F_87.other W103 (Or.inr (sn0 hw))
 have F_106 := F_99.other W103 (Or.inr (sn1 hw))
 have F_107 := F_88.other W103 (Or.inr (sn2 hw))
 have F_108 := F_89.other W103 (Or.inr (sn3 hw))
 have F_109 := F_90.other W103 (Or.inr (sn4 hw))
 have V_110 := V_91.other W103 (Ne.symm ne_b0_o6)
 have E_111 := E_92.wr W103
 have V_112 := V_93.other W103 (Ne.symm ne_b0_o35)
 have E_113 := E_94.wr W103
 have V_114 := V_95.other W103 (Ne.symm ne_b0_o67)
 have E_115 := E_96.wr W103
 have O116 := O97.wr W103 g_b0
 have K117 := K98.wr W103 (Or.inl (List.mem_of_getElem? (i := 0) rfl))
 have F_118 : Fld Z h103 b0 "com/example/quadrille/quadrille/store/SortedTriples" "blocks" "[[I" (.ref b1) := F_86.same W103
 have N119 := Fr.snoc X103 N100 g_b0
 have p120 : ∀ t, St p e below T103 (mkF m 31 Ls1 []) t → S0 t := fun t k => p102 t (st103 t k)
 have p121 : ∀ t, St p e below T103 (mkF m 33 Ls1 [(.ref b2), (.ref b0)]) t → S0 t := fun t k => p120 t (by
   refine XS.aloadN X103.here hx rfl (hb hby d12_31) rfl rfl ?_
   refine XS.aloadN X103.here hx rfl (hb hby d12_32) rfl rfl ?_
   exact k)
 obtain ⟨T122, h122, X122, e122, W122, st122⟩ := putF X103 hx hZ hown (host := "") (Or.inl (ww hw 14 rfl)) Via.refl e103 F_105 E_104 (Or.inl (ww hw 15 rfl)) (ww hw 1 rfl) (ty := (.array .int)) (by decide) rfl rfl (g := (mkF m 33 Ls1 [(.ref b2), (.ref b0)])) rfl rfl (hb hby d12_33)
 have E_123 := E_104.wr W122
 have F_124 := F_118.other W122 (Or.inr (sn5 hw))
 have F_125 := F_106.other W122 (Or.inr (sn6 hw))
 have F_126 := F_107.other W122 (Or.inr (sn7 hw))
 have F_127 := F_108.other W122 (Or.inr (sn8 hw))
 have F_128 := F_109.other W122 (Or.inr (sn9 hw))
 have V_129 := V_112.other W122 (Ne.symm ne_b0_o35)
 have E_130 := E_113.wr W122
 have V_131 := V_114.other W122 (Ne.symm ne_b0_o67)
 have E_132 := E_115.wr W122
 have O133 := O116.wr W122 g_b0
 have K134 := K117.wr W122 (Or.inl (List.mem_of_getElem? (i := 0) rfl))
 have F_135 : Fld Z h122 b0 "com/example/quadrille/quadrille/store/SortedTriples" "counts" "[I" (.ref b2) := F_105.same W122
 have N136 := Fr.snoc X122 N119 g_b0
 have p137 : ∀ t, St p e below T122 (mkF m 36 Ls1 []) t → S0 t := fun t k => p121 t (st122 t k)
 have p138 : ∀ t, St p e below T122 (mkF m 38 Ls1 [(.int i0), (.ref b0)]) t → S0 t := fun t k => p137 t (by
   refine XS.aloadN X122.here hx rfl (hb hby d12_36) rfl rfl ?_
   refine XS.iloadN X122.here hx rfl (hb hby d12_37) rfl ?_
   exact k)
 obtain ⟨T139, h139, X139, e139, W139, st139⟩ := putF X122 hx hZ hown (host := "") (Or.inl (ww hw 30 rfl)) Via.refl e122 F_127 E_123 (Or.inl (ww hw 31 rfl)) (ww hw 1 rfl) (ty := .int) (by decide) rfl rfl (g := (mkF m 38 Ls1 [(.int i0), (.ref b0)])) rfl rfl (hb hby d12_38)
 have E_140 := E_123.wr W139
 have F_141 := F_124.other W139 (Or.inr (sn15 hw))
 have F_142 := F_135.other W139 (Or.inr (sn16 hw))
 have F_143 := F_125.other W139 (Or.inr (sn17 hw))
 have F_144 := F_126.other W139 (Or.inr (sn18 hw))
 have F_145 := F_128.other W139 (Or.inr (sn19 hw))
 have V_146 := V_131.other W139 (Ne.symm ne_b0_o67)
 have E_147 := E_132.wr W139
 have O148 := O133.wr W139 g_b0
 have K149 := K134.wr W139 (Or.inl (List.mem_of_getElem? (i := 0) rfl))
 have F_150 : Fld Z h139 b0 "com/example/quadrille/quadrille/store/SortedTriples" "blockCount" "I" (.int i0) := F_127.same W139
 have N151 := Fr.snoc X139 N136 g_b0
 have p152 : ∀ t, St p e below T139 (mkF m 41 Ls1 []) t → S0 t := fun t k => p138 t (st139 t k)
 have p153 : ∀ t, St p e below T139 (mkF m 44 Ls1 [(.long j1), (.ref b0)]) t → S0 t := fun t k => p152 t (by
   refine XS.aloadN X139.here hx rfl (hb hby d12_41) rfl rfl ?_
   refine XS.lload X139.here hx rfl (hb hby d12_42) rfl ?_
   exact k)
 obtain ⟨T154, h154, X154, e154, W154, st154⟩ := putF X139 hx hZ hown (host := "") (Or.inl (ww hw 52 rfl)) Via.refl e139 F_145 E_140 (Or.inl (ww hw 53 rfl)) (ww hw 1 rfl) (ty := .long) (by decide) rfl rfl (g := (mkF m 44 Ls1 [(.long j1), (.ref b0)])) rfl rfl (hb hby d12_44)
 have E_155 := E_140.wr W154
 have F_156 := F_141.other W154 (Or.inr (sn20 hw))
 have F_157 := F_142.other W154 (Or.inr (sn21 hw))
 have F_158 := F_143.other W154 (Or.inr (sn22 hw))
 have F_159 := F_144.other W154 (Or.inr (sn23 hw))
 have F_160 := F_150.other W154 (Or.inr (sn24 hw))
 have V_161 := V_146.other W154 (Ne.symm ne_b0_o67)
 have E_162 := E_147.wr W154
 have O163 := O148.wr W154 g_b0
 have K164 := K149.wr W154 (Or.inl (List.mem_of_getElem? (i := 0) rfl))
 have F_165 : Fld Z h154 b0 "com/example/quadrille/quadrille/store/SortedTriples" "size" "J" (.long j1) := F_145.same W154
 have N166 := Fr.snoc X154 N151 g_b0
 have p167 : ∀ t, St p e below T154 (mkF m 47 Ls1 []) t → S0 t := fun t k => p153 t (st154 t k)
 have p168 : ∀ t, St p e below T154 (mkF m 49 Ls1 [(.int (1 : Int32)), (.ref b0)]) t → S0 t := fun t k => p167 t (by
   refine XS.aloadN X154.here hx rfl (hb hby d12_47) rfl rfl ?_
   refine XT.iconstV X154.here hx rfl (1 : Int32) (hb hby d12_48) (by decide) ?_
   exact k)
 obtain ⟨T169, h169, X169, e169, W169, st169⟩ := putFN X154 hx hZ hown (ww hw 28 rfl) Via.refl e154 F_159 E_155 (Or.inl (ww hw 29 rfl)) (ww hw 1 rfl) (ty := .boolean) (v' := (.int (1 : Int32))) (by decide) rfl (by decide) (g := (mkF m 49 Ls1 [(.int (1 : Int32)), (.ref b0)])) rfl rfl (hb hby d12_49)
 have E_170 := E_155.wr W169
 have F_171 := F_156.other W169 (Or.inr (sn25 hw))
 have F_172 := F_157.other W169 (Or.inr (sn26 hw))
 have F_173 := F_158.other W169 (Or.inr (sn27 hw))
 have F_174 := F_160.other W169 (Or.inr (sn28 hw))
 have F_175 := F_165.other W169 (Or.inr (sn29 hw))
 have V_176 := V_161.other W169 (Ne.symm ne_b0_o67)
 have E_177 := E_162.wr W169
 have O178 := O163.wr W169 g_b0
 have K179 := K164.wr W169 (Or.inl (List.mem_of_getElem? (i := 0) rfl))
 have F_180 : Fld Z h169 b0 "com/example/quadrille/quadrille/store/SortedTriples" "shared" "Z" (.int (1 : Int32)) := F_159.same W169
 have N181 := Fr.snoc X169 N166 g_b0
 have p182 : ∀ t, St p e below T169 (mkF m 52 Ls1 []) t → S0 t := fun t k => p168 t (st169 t k)
 obtain ⟨fs, hr, hrun, hended, hW, hsame⟩ := X169.leave (v := none) (fun _ => rfl)
 refine ⟨_, _, p182 _ ?_, hrun, hended, _, _, rfl, ?_, ⟨_, rfl⟩, hW, hsame.mono (by decide) (by decide)⟩
 · exact X169.returnOut hx Bd.returns (hb hby d12_52) hr
 · show Q12_16 Z i0 j1 b0 b1 b2 h0 n0 _ T169.heap _
   rw [e169]
   exact ⟨N181, ⟨o67, k67, rfl, K179, gb_o67, sz_o67, E_170, F_171, F_172, F_173, F_180, F_174, F_175, V_176, E_177⟩⟩
theorem pd9 : parseMethodDescriptor "([[I[IIJ)V" = some ⟨[(.array (.array .int)), (.array .int), .int, .long], none⟩ := by decide +kernel
theorem d11_25 : decode prog_155_method_3_code 25 = .ok (.invokespecial 34, 3) := by decide +kernel
theorem d11_28 : decode prog_155_method_3_code 28 = .ok (.areturn, 1) := by decide +kernel
def Q11_15 (Z : State) (i0 : Int32) (i1 : Int32) (j2 : Int64) (b0 : Addr) (b1 : Addr) (b2 : Addr) (b3 : Addr) (h0 : Heap) (n0 : Nat) (v : Option Value) (h : Heap) (L : List Loc) : Prop := Fr n0 L ∧ ((∃ (o14 : Addr) (o67_c44 : Addr) (k67_c44 : ClassId), v = some (.ref o14) ∧ Keep h0 h [b0] ∧ n0 ≤ o14 ∧ h0.size ≤ o14 ∧ n0 ≤ o67_c44 ∧ h0.size ≤ o67_c44 ∧ o14 ≠ o67_c44 ∧ Exa Z h b0 "com/example/quadrille/quadrille/store/SortedTriples" ∧ Fld Z h b0 "com/example/quadrille/quadrille/store/SortedTriples" "blocks" "[[I" (.ref b1) ∧ Fld Z h b0 "com/example/quadrille/quadrille/store/SortedTriples" "counts" "[I" (.ref b2) ∧ Fld Z h b0 "com/example/quadrille/quadrille/store/SortedTriples" "owned" "[Z" (.ref b3) ∧ Fld Z h b0 "com/example/quadrille/quadrille/store/SortedTriples" "shared" "Z" (.int (1 : Int32)) ∧ Fld Z h b0 "com/example/quadrille/quadrille/store/SortedTriples" "blockCount" "I" (.int i1) ∧ Fld Z h b0 "com/example/quadrille/quadrille/store/SortedTriples" "size" "J" (.long j2) ∧ Exa Z h o14 "com/example/quadrille/quadrille/store/SortedTriples" ∧ Fld Z h o14 "com/example/quadrille/quadrille/store/SortedTriples" "blocks" "[[I" (.ref b1) ∧ Fld Z h o14 "com/example/quadrille/quadrille/store/SortedTriples" "counts" "[I" (.ref b2) ∧ Fld Z h o14 "com/example/quadrille/quadrille/store/SortedTriples" "owned" "[Z" (.ref o67_c44) ∧ Fld Z h o14 "com/example/quadrille/quadrille/store/SortedTriples" "shared" "Z" (.int (1 : Int32)) ∧ Fld Z h o14 "com/example/quadrille/quadrille/store/SortedTriples" "blockCount" "I" (.int i1) ∧ Fld Z h o14 "com/example/quadrille/quadrille/store/SortedTriples" "size" "J" (.long j2) ∧ Arv Z h o67_c44 k67_c44 .boolean (4 : Int32) [(.int (0 : Int32)), (.int (0 : Int32)), (.int (0 : Int32)), (.int (0 : Int32))] (.int (0 : Int32)) ∧ Exa Z h o67_c44 "[Z"))
set_option maxRecDepth 65536 in
set_option maxHeartbeats 40000000 in
theorem rm11_15 (l : Launch) (Z : State) (a0 : Array Value) (hw : ∀ d ∈ tables_1, d.before a0 Z = true) (ws : List Jvm.Cond) (i0 : Int32) (i1 : Int32) (j2 : Int64) (b0 : Addr) (b1 : Addr) (b2 : Addr) (b3 : Addr) (h0 : Heap) (n0 : Nat) (O0 : Old Z n0 h0)  (g_b0 : n0 ≤ b0) (g_b1 : n0 ≤ b1) (g_b2 : n0 ≤ b2) (g_b3 : n0 ≤ b3) (ne_b0_b1 : b0 ≠ b1) (ne_b0_b2 : b0 ≠ b2) (ne_b0_b3 : b0 ≠ b3) (ne_b1_b2 : b1 ≠ b2) (ne_b1_b3 : b1 ≠ b3) (ne_b2_b3 : b2 ≠ b3) (f0 : Exa Z h0 b0 "com/example/quadrille/quadrille/store/SortedTriples") (f1 : Fld Z h0 b0 "com/example/quadrille/quadrille/store/SortedTriples" "blocks" "[[I" (.ref b1)) (f2 : Fld Z h0 b0 "com/example/quadrille/quadrille/store/SortedTriples" "counts" "[I" (.ref b2)) (f3 : Fld Z h0 b0 "com/example/quadrille/quadrille/store/SortedTriples" "owned" "[Z" (.ref b3)) (f4 : Fld Z h0 b0 "com/example/quadrille/quadrille/store/SortedTriples" "shared" "Z" (.int i0)) (f5 : Fld Z h0 b0 "com/example/quadrille/quadrille/store/SortedTriples" "blockCount" "I" (.int i1)) (f6 : Fld Z h0 b0 "com/example/quadrille/quadrille/store/SortedTriples" "size" "J" (.long j2)) :
    MetFree l M13 (head1 (Jvm.Cond.code M13 prog_155_method_3_code 1 (some (.object "com/example/quadrille/quadrille/store/SortedTriples")) :: ws) ({ frames := 2, cells := 4, slots := 18, locals := 30 } : Room)) (fun a U => a = #[(.ref b0)] ∧ Z.Warmed39 U.vm ∧ U.heap = h0) (fun _ _ _ _ _ => True) (fun _ U o U' => ∃ v L, o = .returned v ∧ Q11_15 Z i0 i1 j2 b0 b1 b2 b3 h0 n0 v U'.heap L ∧ FrameEnd U o U' L ({ frames := 2, cells := 4, slots := 18, locals := 30 } : Room).cells ({ frames := 2, cells := 4, slots := 18, locals := 30 } : Room).slots) := by
 refine MetFree.of_bodySF (plainFor_of_name pn1) hisR ?_
 intro p e s m args below meth c s₁ Bd hml0 hP hK
 obtain ⟨rfl, hZ, hh⟩ := hP
 have hx := Bd.exec
 have hby := Bd.bytes
 have hml : c.maxLocals = 1 := hml0
 have hown : s.vm.findClass "com/example/quadrille/quadrille/store/SortedTriples" = some m.cls := findClass_of_methodNamed Bd.named
 have hnm := (name_of_methodNamed Bd.named Bd.method).1
 have X0 : Stand p l e ({ frames := 2, cells := 4, slots := 18, locals := 30 } : Room) s m #[(.ref b0)] below meth c s₁ [] 0 0 := Stand.of_body Bd
 have e0 : s₁.heap = h0 := by rw [← hh, Bd.state]; rfl
 have N0 := Fr.nil n0
 let S0 : State → Prop := fun t => Steps p.tables e below (s₁.setTop (entryFrame m #[(.ref b0)] 1)) t
 have p0 : ∀ t, St p e below s₁ (mkF m 0 #[.val (.ref b0)] []) t → S0 t := fun t k => castTop (ef13 m b0) k
 have p1 : ∀ t, St p e below s₁ (mkF m 2 #[.val (.ref b0)] [(.int (1 : Int32)), (.ref b0)]) t → S0 t := fun t k => p0 t (by
   refine XS.aloadN X0.here hx rfl (hb hby d11_0) rfl rfl ?_
   refine XT.iconstV X0.here hx rfl (1 : Int32) (hb hby d11_1) (by decide) ?_
   exact k)
 obtain ⟨T2, h2, X2, e2, W2, st2⟩ := putFN X0 hx hZ hown (ww hw 28 rfl) Via.refl e0 f4 f0 (Or.inl (ww hw 29 rfl)) (ww hw 1 rfl) (ty := .boolean) (v' := (.int (1 : Int32))) (by decide) rfl (by decide) (g := (mkF m 2 #[.val (.ref b0)] [(.int (1 : Int32)), (.ref b0)])) rfl rfl (hb hby d11_2)
 have E_3 := f0.wr W2
 have F_4 := f1.other W2 (Or.inr (sn25 hw))
 have F_5 := f2.other W2 (Or.inr (sn26 hw))
 have F_6 := f3.other W2 (Or.inr (sn27 hw))
 have F_7 := f5.other W2 (Or.inr (sn28 hw))
 have F_8 := f6.other W2 (Or.inr (sn29 hw))
 have O9 := O0.wr W2 g_b0
 have K10 := (Keep.refl h0 [b0]).wr W2 (Or.inl (List.mem_of_getElem? (i := 0) rfl))
 have F_11 : Fld Z h2 b0 "com/example/quadrille/quadrille/store/SortedTriples" "shared" "Z" (.int (1 : Int32)) := f4.same W2
 have N12 := Fr.snoc X2 N0 g_b0
 have p13 : ∀ t, St p e below T2 (mkF m 5 #[.val (.ref b0)] []) t → S0 t := fun t k => p1 t (st2 t k)
 obtain ⟨T14, h14, X14, e14, E14, A14, D14, -, st14⟩ := newO X2 hx hZ hown (ww hw 67 rfl) (ww hw 1 rfl) (ww hw 2 rfl) e2 (g := (mkF m 5 #[.val (.ref b0)] [])) rfl (hb hby d11_5) (by decide) (by decide)
 obtain ⟨o14, gq14⟩ : ∃ z, z = (h2).size := ⟨_, rfl⟩
 rw [← gq14] at A14 D14 st14
 have gb_o14 : n0 ≤ o14 := Nat.le_trans (own_old_le O9) (Nat.le_of_eq gq14.symm)
 have sz_o14 : h0.size ≤ o14 := Nat.le_trans (K10).1 (Nat.le_of_eq gq14.symm)
 have ne_b0_o14 : b0 ≠ o14 := Nat.ne_of_lt (Nat.lt_of_lt_of_le E_3.lt (Nat.le_of_eq gq14.symm))
 have E_15 := E_3.ext E14
 have F_16 := F_4.ext E14
 have F_17 := F_5.ext E14
 have F_18 := F_6.ext E14
 have F_19 := F_11.ext E14
 have F_20 := F_7.ext E14
 have F_21 := F_8.ext E14
 have O22 := O9.ext E14
 have K23 := K10.ext E14
 have E_24 : Exa Z h14 o14 "com/example/quadrille/quadrille/store/SortedTriples" := A14
 have F_25 : Fld Z h14 o14 "com/example/quadrille/quadrille/store/SortedTriples" "blocks" "[[I" .null := D14 (Or.inl (ww hw 12 rfl)) (ty := (.array (.array .int))) (by decide)
 have F_26 : Fld Z h14 o14 "com/example/quadrille/quadrille/store/SortedTriples" "counts" "[I" .null := D14 (Or.inl (ww hw 15 rfl)) (ty := (.array .int)) (by decide)
 have F_27 : Fld Z h14 o14 "com/example/quadrille/quadrille/store/SortedTriples" "owned" "[Z" .null := D14 (Or.inl (ww hw 18 rfl)) (ty := (.array .boolean)) (by decide)
 have F_28 : Fld Z h14 o14 "com/example/quadrille/quadrille/store/SortedTriples" "shared" "Z" (.int (0 : Int32)) := D14 (Or.inl (ww hw 29 rfl)) (ty := .boolean) (by decide)
 have F_29 : Fld Z h14 o14 "com/example/quadrille/quadrille/store/SortedTriples" "blockCount" "I" (.int (0 : Int32)) := D14 (Or.inl (ww hw 31 rfl)) (ty := .int) (by decide)
 have F_30 : Fld Z h14 o14 "com/example/quadrille/quadrille/store/SortedTriples" "size" "J" (.long (0 : Int64)) := D14 (Or.inl (ww hw 53 rfl)) (ty := .long) (by decide)
 have p31 : ∀ t, St p e below T14 (mkF m 8 #[.val (.ref b0)] [(.ref o14)]) t → S0 t := fun t k => p13 t (st14 t k)
 have p32 : ∀ t, St p e below T14 (mkF m 10 #[.val (.ref b0)] [(.ref b0), (.ref o14), (.ref o14)]) t → S0 t := fun t k => p31 t (by
   refine XS.dup X14.here hx rfl (hb hby d11_8) rfl rfl ?_
   refine XS.aloadN X14.here hx rfl (hb hby d11_9) rfl rfl ?_
   exact k)
 obtain ⟨T33, X33, e33, st33⟩ := getF X14 hx hZ hown (host := "") (Or.inl (ww hw 11 rfl)) Via.refl e14 F_16 (g := (mkF m 10 #[.val (.ref b0)] [(.ref b0), (.ref o14), (.ref o14)])) rfl rfl (hb hby d11_10)
 have p34 : ∀ t, St p e below T33 (mkF m 13 #[.val (.ref b0)] [(.ref b1), (.ref o14), (.ref o14)]) t → S0 t := fun t k => p32 t (st33 t k)
 have p35 : ∀ t, St p e below T33 (mkF m 14 #[.val (.ref b0)] [(.ref b0), (.ref b1), (.ref o14), (.ref o14)]) t → S0 t := fun t k => p34 t (by
   refine XS.aloadN X33.here hx rfl (hb hby d11_13) rfl rfl ?_
   exact k)
 obtain ⟨T36, X36, e36, st36⟩ := getF X33 hx hZ hown (host := "") (Or.inl (ww hw 14 rfl)) Via.refl e33 F_17 (g := (mkF m 14 #[.val (.ref b0)] [(.ref b0), (.ref b1), (.ref o14), (.ref o14)])) rfl rfl (hb hby d11_14)
 have p37 : ∀ t, St p e below T36 (mkF m 17 #[.val (.ref b0)] [(.ref b2), (.ref b1), (.ref o14), (.ref o14)]) t → S0 t := fun t k => p35 t (st36 t k)
 have p38 : ∀ t, St p e below T36 (mkF m 18 #[.val (.ref b0)] [(.ref b0), (.ref b2), (.ref b1), (.ref o14), (.ref o14)]) t → S0 t := fun t k => p37 t (by
   refine XS.aloadN X36.here hx rfl (hb hby d11_17) rfl rfl ?_
   exact k)
 obtain ⟨T39, X39, e39, st39⟩ := getF X36 hx hZ hown (host := "") (Or.inl (ww hw 30 rfl)) Via.refl e36 F_20 (g := (mkF m 18 #[.val (.ref b0)] [(.ref b0), (.ref b2), (.ref b1), (.ref o14), (.ref o14)])) rfl rfl (hb hby d11_18)
 have p40 : ∀ t, St p e below T39 (mkF m 21 #[.val (.ref b0)] [(.int i1), (.ref b2), (.ref b1), (.ref o14), (.ref o14)]) t → S0 t := fun t k => p38 t (st39 t k)
 have p41 : ∀ t, St p e below T39 (mkF m 22 #[.val (.ref b0)] [(.ref b0), (.int i1), (.ref b2), (.ref b1), (.ref o14), (.ref o14)]) t → S0 t := fun t k => p40 t (by
   refine XS.aloadN X39.here hx rfl (hb hby d11_21) rfl rfl ?_
   exact k)
 obtain ⟨T42, X42, e42, st42⟩ := getF X39 hx hZ hown (host := "") (Or.inl (ww hw 52 rfl)) Via.refl e39 F_21 (g := (mkF m 22 #[.val (.ref b0)] [(.ref b0), (.int i1), (.ref b2), (.ref b1), (.ref o14), (.ref o14)])) rfl rfl (hb hby d11_22)
 have p43 : ∀ t, St p e below T42 (mkF m 25 #[.val (.ref b0)] [(.long j2), (.int i1), (.ref b2), (.ref b1), (.ref o14), (.ref o14)]) t → S0 t := fun t k => p41 t (st42 t k)
 obtain ⟨_, _, ⟨Tc44, Lc44, kc44, nc44⟩, -, Xc44, ⟨Lcc44, hQc44, lc44, yc44, zc44⟩, stc44⟩ := X42.specialBack hx (y := M12) rfl hown (mvT hZ (ww hw 68 rfl)) (mvT hZ (ww hw 69 rfl)) (mvT hZ (ww hw 70 rfl)) (by decide) (backOf (W := 1) (rm12_16 l Z a0 hw [] i1 j2 o14 b1 b2 h14 n0 O22  gb_o14 g_b1 g_b2 ne_b1_b2 E_24 F_25 F_26 F_27 F_28 F_29 F_30) hZ (ww hw 70 rfl) (ww hw 2 rfl) (by decide) (by decide)) (g := (mkF m 25 #[.val (.ref b0)] [(.long j2), (.int i1), (.ref b2), (.ref b1), (.ref o14), (.ref o14)])) rfl (by rw [hml]; rfl) (Steps.refl _) (a := o14) (argsL := [(.ref b1), (.ref b2), (.int i1), (.long j2)]) (rest := [(.ref o14)]) (lenOf pd9 rfl) rfl (by show 2 * 0 + _ ≤ _; exact Nat.le_of_eq rfl) (hb hby d11_25) (fun _ _ => ⟨rfl, e42, (by decide : 1 + 3 ≤ _), (by decide : 6 + 12 ≤ _)⟩)
 dsimp only [Pt.U, Pt.locs, Pt.cells, Pt.slots] at Xc44 lc44 yc44 zc44 stc44 hQc44
 subst lc44 yc44 zc44
 obtain ⟨Nqc44, hAc44⟩ := hQc44
 have Nc44 := Fr.app N12 Nqc44
 obtain ⟨o67_c44, k67_c44, rfl, Kcc44, gn_o67_c44, zn_o67_c44, f_45, f_46, f_47, f_48, f_49, f_50, f_51, f_52, f_53⟩ := hAc44
 have ne_b0_o67_c44 : b0 ≠ o67_c44 := Nat.ne_of_lt (Nat.lt_of_lt_of_le E_15.lt zn_o67_c44)
 have ne_o14_o67_c44 : o14 ≠ o67_c44 := Nat.ne_of_lt (Nat.lt_of_lt_of_le E_24.lt zn_o67_c44)
 have sz_o67_c44 : h0.size ≤ o67_c44 := Nat.le_trans (K23).1 zn_o67_c44
 have E_54 := E_15.keep Kcc44
 have F_55 := F_16.keep Kcc44 (ninS ne_b0_o14 nin0)
 have F_56 := F_17.keep Kcc44 (ninS ne_b0_o14 nin0)
 have F_57 := F_18.keep Kcc44 (ninS ne_b0_o14 nin0)
 have F_58 := F_19.keep Kcc44 (ninS ne_b0_o14 nin0)
 have F_59 := F_20.keep Kcc44 (ninS ne_b0_o14 nin0)
 have F_60 := F_21.keep Kcc44 (ninS ne_b0_o14 nin0)
 have O61 := O22.keep Kcc44 (allS gb_o14 all0)
 have K62 := Keep.trans K23 Kcc44 (allS (Or.inr sz_o14) all0)
 have p63 : ∀ t, St p e below Tc44 (mkF m 28 #[.val (.ref b0)] [(.ref o14)]) t → S0 t := fun t k => p43 t (stc44.trans k)
 obtain ⟨fs, hr, hrun, hended, hW, hsame⟩ := Xc44.leave (v := some (.ref o14)) (fun h => by rw [Bd.returns] at h; cases h)
 refine ⟨_, _, p63 _ ?_, hrun, hended, _, _, rfl, ?_, ⟨_, rfl⟩, hW, hsame.mono (by decide) (by decide)⟩
 · exact retOut Xc44 hx Bd.returns rfl (Or.inr (Or.inr (Or.inr (Or.inr ⟨rfl, rfl, rfl⟩)))) (hb hby d11_28) hr
 · show Q11_15 Z i0 i1 j2 b0 b1 b2 b3 h0 n0 _ Tc44.heap _
   exact ⟨Nc44, ⟨o14, o67_c44, k67_c44, rfl, K62, gb_o14, sz_o14, gn_o67_c44, sz_o67_c44, ne_o14_o67_c44, E_54, F_55, F_56, F_57, F_58, F_59, F_60, f_45, f_46, f_47, f_48, f_49, f_50, f_51, f_52, f_53⟩⟩
theorem pd10 : parseMethodDescriptor "()Lcom/example/quadrille/quadrille/store/SortedTriples;" = some ⟨[], some (.object "com/example/quadrille/quadrille/store/SortedTriples")⟩ := by decide +kernel
theorem ar12 {x0 : Int32} {x1 : Int32} {x2 : Int32} {x3 : Int32} {x4 : Int32} (h0 : (own_cmp3 x0 x1 x2 x3 x4 x0) < (0 : Int32)) (h1 : (own_cmp3 x3 x4 x0 x0 x1 x2) < (0 : Int32)) : False := by
  have q1_ := ltI h0
  have q2_ := ltI h1
  have l3_ := rng32 x0
  have l4_ := rng32 x1
  have l5_ := rng32 x2
  have l6_ := rng32 x3
  have l7_ := rng32 x4
  have l8_ := own_cmp3_r x0 x1 x2 x3 x4 x0
  have l9_ := lI0
  have l10_ := own_cmp3_r x3 x4 x0 x0 x1 x2
  have l10a_ := own_cmp3_a x3 x4 x0 x0 x1 x2
  omega
theorem ar13 {x0 : Int32} {x1 : Int32} {x2 : Int32} {x3 : Int32} {x4 : Int32} (h0 : (own_cmp3 x0 x1 x2 x3 x4 x0) < (0 : Int32)) (h1 : ¬ ((0 : Int32) < (own_cmp3 x3 x4 x0 x0 x1 x2))) : False := by
  have q1_ := ltI h0
  have q2_ := nltI h1
  have l3_ := rng32 x0
  have l4_ := rng32 x1
  have l5_ := rng32 x2
  have l6_ := rng32 x3
  have l7_ := rng32 x4
  have l8_ := own_cmp3_r x0 x1 x2 x3 x4 x0
  have l9_ := lI0
  have l10_ := own_cmp3_r x3 x4 x0 x0 x1 x2
  have l10a_ := own_cmp3_a x3 x4 x0 x0 x1 x2
  omega
def Q9_19 (Z : State) (i0 : Int32) (i1 : Int32) (i2 : Int32) (i3 : Int32) (i4 : Int32) (i5 : Int32) (i6 : Int32) (i7 : Int32) (i8 : Int32) (i9 : Int32) (i10 : Int32) (i11 : Int32) (i12 : Int32) (i13 : Int32) (i14 : Int32) (b0 : Addr) (k1 : ClassId) (h0 : Heap) (n0 : Nat) (v : Option Value) (h : Heap) (L : List Loc) : Prop := Fr n0 L ∧ h = h0 ∧ ((v = some (.int (own_cmp3 i6 i7 i8 i0 i1 i2))))
set_option maxRecDepth 65536 in
set_option maxHeartbeats 40000000 in
theorem rm9_19 (l : Launch) (Z : State) (a0 : Array Value) (hw : ∀ d ∈ tables_1, d.before a0 Z = true) (ws : List Jvm.Cond) (i0 : Int32) (i1 : Int32) (i2 : Int32) (i3 : Int32) (i4 : Int32) (i5 : Int32) (i6 : Int32) (i7 : Int32) (i8 : Int32) (i9 : Int32) (i10 : Int32) (i11 : Int32) (i12 : Int32) (i13 : Int32) (i14 : Int32) (b0 : Addr) (k1 : ClassId) (h0 : Heap) (n0 : Nat) (O0 : Old Z n0 h0)  (g_b0 : n0 ≤ b0) (f0 : Arv Z h0 b0 k1 .int (12 : Int32) [(.int i3), (.int i4), (.int i5), (.int i6), (.int i7), (.int i8), (.int i9), (.int i10), (.int i11), (.int i12), (.int i13), (.int i14)] (.int (0 : Int32))) (f1 : Exa Z h0 b0 "[I") :
    MetFree l M8 (head1 (Jvm.Cond.code M8 prog_155_method_13_code 7 (some .int) :: ws) ({ frames := 1, cells := 0, slots := 0, locals := 13 } : Room)) (fun a U => a = #[(.ref b0), (.int (3 : Int32)), (.int (3 : Int32)), (.int i0), (.int i1), (.int i2)] ∧ Z.Warmed39 U.vm ∧ U.heap = h0) (fun _ _ _ _ _ => True) (fun _ U o U' => ∃ v L, o = .returned v ∧ Q9_19 Z i0 i1 i2 i3 i4 i5 i6 i7 i8 i9 i10 i11 i12 i13 i14 b0 k1 h0 n0 v U'.heap L ∧ FrameEnd U o U' L ({ frames := 1, cells := 0, slots := 0, locals := 13 } : Room).cells ({ frames := 1, cells := 0, slots := 0, locals := 13 } : Room).slots) := by
 refine MetFree.of_bodySF (plainFor_of_name pn1) hisR ?_
 intro p e s m args below meth c s₁ Bd hml0 hP hK
 obtain ⟨rfl, hZ, hh⟩ := hP
 have hx := Bd.exec
 have hby := Bd.bytes
 have hml : c.maxLocals = 7 := hml0
 have hown : s.vm.findClass "com/example/quadrille/quadrille/store/SortedTriples" = some m.cls := findClass_of_methodNamed Bd.named
 have hnm := (name_of_methodNamed Bd.named Bd.method).1
 have X0 : Stand p l e ({ frames := 1, cells := 0, slots := 0, locals := 13 } : Room) s m #[(.ref b0), (.int (3 : Int32)), (.int (3 : Int32)), (.int i0), (.int i1), (.int i2)] below meth c s₁ [] 0 0 := Stand.of_body Bd
 have e0 : s₁.heap = h0 := by rw [← hh, Bd.state]; rfl
 have N0 := Fr.nil n0
 let S0 : State → Prop := fun t => Steps p.tables e below (s₁.setTop (entryFrame m #[(.ref b0), (.int (3 : Int32)), (.int (3 : Int32)), (.int i0), (.int i1), (.int i2)] 7)) t
 let Ls1 : Array Slot := #[.val (.ref b0), .val (.int (3 : Int32)), .val (.int (3 : Int32)), .val (.int i0), .val (.int i1), .val (.int i2), .unset]
 have p0 : ∀ t, St p e below s₁ (mkF m 0 Ls1 []) t → S0 t := fun t k => castTop (ef8 m b0 (3 : Int32) (3 : Int32) i0 i1 i2) k
 let Ls2 : Array Slot := #[.val (.ref b0), .val (.int (3 : Int32)), .val (.int (3 : Int32)), .val (.int i0), .val (.int i1), .val (.int i2), .val (.int (0 : Int32))]
 have p3 : ∀ t, St p e below s₁ (mkF m 9 Ls2 [(.int (3 : Int32)), (.ref b0)]) t → S0 t := fun t k => p0 t (by
   refine XT.iconstV X0.here hx rfl (0 : Int32) (hb hby d9_0) (by decide) ?_
   refine XS.istore X0.here hx rfl (hb hby d9_1) rfl (l' := Ls2) rfl ?_
   refine XS.iloadN X0.here hx rfl (hb hby d9_3) rfl ?_
   refine XS.ifNo X0.here hx rfl (hb hby d9_4) rfl ((if0 _ _).trans (tlt (by decide : (0 : Int32) < (3 : Int32))).2.2.2) ?_
   refine XS.aloadN X0.here hx rfl (hb hby d9_7) rfl rfl ?_
   show St p e below s₁ (mkF m 8 Ls2 [(.ref b0)]) t
   refine XS.iloadN X0.here hx rfl (hb hby d9_8) rfl ?_
   exact k)
 obtain ⟨cl4, Ar4, -, Sz4, -, Hs4, -⟩ := id f0
 have hin4 : ¬ ((3 : Int32) < 0 ∨ cl4.slots.size ≤ (3 : Int32).toNatClampNeg) := inb_of Sz4 ⟨by decide, by decide⟩
 have hat4 : cl4.slots[(3 : Int32).toNatClampNeg]? = some (.int i6) := Hs4.at hin4 rfl
 have p5 : ∀ t, St p e below s₁ (mkF m 11 Ls2 [(.int i0), (.int i6)]) t → S0 t := fun t k => p3 t (by
   refine X0.iaload hx (j := (3 : Int32)) (v := (.int i6)) (by rw [e0]; exact Ar4.1) (State.isArrayOf_alike hZ.alike Ar4.2.1) Ar4.2.2 hin4 hat4 (g := (mkF m 9 Ls2 [(.int (3 : Int32)), (.ref b0)])) rfl rfl (hb hby d9_9) _ ?_
   refine XS.iloadN X0.here hx rfl (hb hby d9_10) rfl ?_
   exact k)
 obtain ⟨_, _, ⟨Tc6, Lc6, kc6, nc6⟩, -, Xc6, ⟨Lcc6, hQc6, lc6, yc6, zc6⟩, stc6⟩ := Jvm.LawKit.callS X0 hx (y := M7) hown (mvT hZ (ww hw 57 rfl)) (mvT hZ (ww hw 58 rfl)) (mvT hZ (ww hw 59 rfl)) (mvT hZ (ww hw 60 rfl)) (by decide) (backOf (W := 0) (rm10_10 l Z a0 hw [] i6 i0 h0 n0 O0  ) hZ (ww hw 60 rfl) (ww hw 59 rfl) (by decide) (by decide)) (g := (mkF m 11 Ls2 [(.int i0), (.int i6)])) rfl (by rw [hml]; rfl) (argsL := [(.int i6), (.int i0)]) (rest := []) (lenOf pd6 rfl) rfl (by show 2 * 0 + _ ≤ _; exact Nat.le_of_eq rfl) (hb hby d9_11) (fun _ _ => ⟨rfl, e0, (by decide : 0 + 0 ≤ _), (by decide : 0 + 0 ≤ _)⟩)
 dsimp only [Pt.U, Pt.locs, Pt.cells, Pt.slots] at Xc6 lc6 yc6 zc6 stc6 hQc6
 subst lc6 yc6 zc6
 obtain ⟨Nqc6, ec6, hAc6⟩ := hQc6
 have Nc6 := Fr.app N0 Nqc6
 rcases hAc6 with ⟨rfl, g7⟩ | ⟨rfl, g8, g9⟩ | ⟨rfl, g10, g11⟩
 ·
  have p12 : ∀ t, St p e below Tc6 (mkF m 14 Ls2 [(.int (-1 : Int32))]) t → S0 t := fun t k => p5 t (stc6 t k)
  let Ls13 : Array Slot := #[.val (.ref b0), .val (.int (3 : Int32)), .val (.int (3 : Int32)), .val (.int i0), .val (.int i1), .val (.int i2), .val (.int (-1 : Int32))]
  have p14 : ∀ t, St p e below Tc6 (mkF m 62 Ls13 [(.int (-1 : Int32))]) t → S0 t := fun t k => p12 t (by
    refine XS.istore Xc6.here hx rfl (hb hby d9_14) rfl (l' := Ls13) rfl ?_
    refine XS.iload Xc6.here hx rfl (hb hby d9_16) rfl ?_
    refine XS.ifYes Xc6.here hx rfl (pc0 := 18) (pc' := 38) rfl (hb hby d9_18) rfl ((if0 _ _).trans (feq (by decide : ¬ ((-1 : Int32) = (0 : Int32)))).2) (by decide) (by decide) ?_
    refine XS.iload Xc6.here hx rfl (hb hby d9_38) rfl ?_
    refine XS.ifYes Xc6.here hx rfl (pc0 := 40) (pc' := 60) rfl (hb hby d9_40) rfl ((if0 _ _).trans (feq (by decide : ¬ ((-1 : Int32) = (0 : Int32)))).2) (by decide) (by decide) ?_
    show St p e below Tc6 (mkF m 60 Ls13 []) t
    refine XS.iload Xc6.here hx rfl (hb hby d9_60) rfl ?_
    exact k)
  obtain ⟨fs, hr, hrun, hended, hW, hsame⟩ := Xc6.leave (v := some (.int (-1 : Int32))) (fun h => by rw [Bd.returns] at h; cases h)
  refine ⟨_, _, p14 _ ?_, hrun, hended, _, _, rfl, ?_, ⟨_, rfl⟩, hW, hsame.mono (by decide) (by decide)⟩
  · exact retOut Xc6 hx Bd.returns rfl (Or.inl ⟨rfl, by simp, _, rfl⟩) (hb hby d9_62) hr
  · show Q9_19 Z i0 i1 i2 i3 i4 i5 i6 i7 i8 i9 i10 i11 i12 i13 i14 b0 k1 h0 n0 _ Tc6.heap _
    exact ⟨Nc6, ec6, (congrArg (fun z => some (Value.int z)) (by unfold own_cmp3; (repeat' split) <;> first | rfl | contradiction | (simp_all; done) : (-1 : Int32) = (own_cmp3 i6 i7 i8 i0 i1 i2)))⟩
 ·
  have p15 : ∀ t, St p e below Tc6 (mkF m 14 Ls2 [(.int (0 : Int32))]) t → S0 t := fun t k => p5 t (stc6 t k)
  have p16 : ∀ t, St p e below Tc6 (mkF m 30 Ls2 [(.int (4 : Int32)), (.ref b0)]) t → S0 t := fun t k => p15 t (by
    refine XS.istore Xc6.here hx rfl (hb hby d9_14) rfl (l' := Ls2) rfl ?_
    refine XS.iload Xc6.here hx rfl (hb hby d9_16) rfl ?_
    refine XS.ifNo Xc6.here hx rfl (hb hby d9_18) rfl ((if0 _ _).trans (teq (by decide : (0 : Int32) = (0 : Int32))).2) ?_
    refine XS.iloadN Xc6.here hx rfl (hb hby d9_21) rfl ?_
    refine XT.iconstV Xc6.here hx rfl (1 : Int32) (hb hby d9_22) (by decide) ?_
    show St p e below Tc6 (mkF m 23 Ls2 [(.int (1 : Int32)), (.int (3 : Int32))]) t
    refine XS.icmpNo Xc6.here hx rfl (hb hby d9_23) rfl (tlt (by decide : (1 : Int32) < (3 : Int32))).2.2.2 ?_
    refine XS.aloadN Xc6.here hx rfl (hb hby d9_26) rfl rfl ?_
    refine XS.iloadN Xc6.here hx rfl (hb hby d9_27) rfl ?_
    refine XT.iconstV Xc6.here hx rfl (1 : Int32) (hb hby d9_28) (by decide) ?_
    refine XS.iadd Xc6.here hx rfl (hb hby d9_29) rfl ?_
    exact k)
  obtain ⟨cl17, Ar17, -, Sz17, -, Hs17, -⟩ := id f0
  have hin17 : ¬ ((4 : Int32) < 0 ∨ cl17.slots.size ≤ (4 : Int32).toNatClampNeg) := inb_of Sz17 ⟨by decide, by decide⟩
  have hat17 : cl17.slots[(4 : Int32).toNatClampNeg]? = some (.int i7) := Hs17.at hin17 rfl
  have p18 : ∀ t, St p e below Tc6 (mkF m 33 Ls2 [(.int i1), (.int i7)]) t → S0 t := fun t k => p16 t (by
    refine Xc6.iaload hx (j := (4 : Int32)) (v := (.int i7)) (by rw [ec6]; exact Ar17.1) (State.isArrayOf_alike hZ.alike Ar17.2.1) Ar17.2.2 hin17 hat17 (g := (mkF m 30 Ls2 [(.int (4 : Int32)), (.ref b0)])) rfl rfl (hb hby d9_30) _ ?_
    refine XS.iload Xc6.here hx rfl (hb hby d9_31) rfl ?_
    exact k)
  obtain ⟨_, _, ⟨Tc19, Lc19, kc19, nc19⟩, -, Xc19, ⟨Lcc19, hQc19, lc19, yc19, zc19⟩, stc19⟩ := Jvm.LawKit.callS Xc6 hx (y := M7) hown (mvT hZ (ww hw 57 rfl)) (mvT hZ (ww hw 58 rfl)) (mvT hZ (ww hw 59 rfl)) (mvT hZ (ww hw 60 rfl)) (by decide) (backOf (W := 0) (rm10_10 l Z a0 hw [] i7 i1 h0 n0 O0  ) hZ (ww hw 60 rfl) (ww hw 59 rfl) (by decide) (by decide)) (g := (mkF m 33 Ls2 [(.int i1), (.int i7)])) rfl (by rw [hml]; rfl) (argsL := [(.int i7), (.int i1)]) (rest := []) (lenOf pd6 rfl) rfl (by show 2 * 0 + _ ≤ _; exact Nat.le_of_eq rfl) (hb hby d9_33) (fun _ _ => ⟨rfl, ec6, (by decide : 0 + 0 ≤ _), (by decide : 0 + 0 ≤ _)⟩)
  dsimp only [Pt.U, Pt.locs, Pt.cells, Pt.slots] at Xc19 lc19 yc19 zc19 stc19 hQc19
  subst lc19 yc19 zc19
  obtain ⟨Nqc19, ec19, hAc19⟩ := hQc19
  have Nc19 := Fr.app Nc6 Nqc19
  rcases hAc19 with ⟨rfl, g20⟩ | ⟨rfl, g21, g22⟩ | ⟨rfl, g23, g24⟩
  ·
   have p25 : ∀ t, St p e below Tc19 (mkF m 36 Ls2 [(.int (-1 : Int32))]) t → S0 t := fun t k => p18 t (stc19 t k)
   let Ls26 : Array Slot := #[.val (.ref b0), .val (.int (3 : Int32)), .val (.int (3 : Int32)), .val (.int i0), .val (.int i1), .val (.int i2), .val (.int (-1 : Int32))]
   have p27 : ∀ t, St p e below Tc19 (mkF m 62 Ls26 [(.int (-1 : Int32))]) t → S0 t := fun t k => p25 t (by
     refine XS.istore Xc19.here hx rfl (hb hby d9_36) rfl (l' := Ls26) rfl ?_
     refine XS.iload Xc19.here hx rfl (hb hby d9_38) rfl ?_
     refine XS.ifYes Xc19.here hx rfl (pc0 := 40) (pc' := 60) rfl (hb hby d9_40) rfl ((if0 _ _).trans (feq (by decide : ¬ ((-1 : Int32) = (0 : Int32)))).2) (by decide) (by decide) ?_
     refine XS.iload Xc19.here hx rfl (hb hby d9_60) rfl ?_
     exact k)
   obtain ⟨fs, hr, hrun, hended, hW, hsame⟩ := Xc19.leave (v := some (.int (-1 : Int32))) (fun h => by rw [Bd.returns] at h; cases h)
   refine ⟨_, _, p27 _ ?_, hrun, hended, _, _, rfl, ?_, ⟨_, rfl⟩, hW, hsame.mono (by decide) (by decide)⟩
   · exact retOut Xc19 hx Bd.returns rfl (Or.inl ⟨rfl, by simp, _, rfl⟩) (hb hby d9_62) hr
   · show Q9_19 Z i0 i1 i2 i3 i4 i5 i6 i7 i8 i9 i10 i11 i12 i13 i14 b0 k1 h0 n0 _ Tc19.heap _
     exact ⟨Nc19, ec19, (congrArg (fun z => some (Value.int z)) (by unfold own_cmp3; (repeat' split) <;> first | rfl | contradiction | (simp_all; done) : (-1 : Int32) = (own_cmp3 i6 i7 i8 i0 i1 i2)))⟩
  ·
   have p28 : ∀ t, St p e below Tc19 (mkF m 36 Ls2 [(.int (0 : Int32))]) t → S0 t := fun t k => p18 t (stc19 t k)
   have p29 : ∀ t, St p e below Tc19 (mkF m 52 Ls2 [(.int (5 : Int32)), (.ref b0)]) t → S0 t := fun t k => p28 t (by
     refine XS.istore Xc19.here hx rfl (hb hby d9_36) rfl (l' := Ls2) rfl ?_
     refine XS.iload Xc19.here hx rfl (hb hby d9_38) rfl ?_
     refine XS.ifNo Xc19.here hx rfl (hb hby d9_40) rfl ((if0 _ _).trans (teq (by decide : (0 : Int32) = (0 : Int32))).2) ?_
     refine XS.iloadN Xc19.here hx rfl (hb hby d9_43) rfl ?_
     refine XT.iconstV Xc19.here hx rfl (2 : Int32) (hb hby d9_44) (by decide) ?_
     show St p e below Tc19 (mkF m 45 Ls2 [(.int (2 : Int32)), (.int (3 : Int32))]) t
     refine XS.icmpNo Xc19.here hx rfl (hb hby d9_45) rfl (tlt (by decide : (2 : Int32) < (3 : Int32))).2.2.2 ?_
     refine XS.aloadN Xc19.here hx rfl (hb hby d9_48) rfl rfl ?_
     refine XS.iloadN Xc19.here hx rfl (hb hby d9_49) rfl ?_
     refine XT.iconstV Xc19.here hx rfl (2 : Int32) (hb hby d9_50) (by decide) ?_
     refine XS.iadd Xc19.here hx rfl (hb hby d9_51) rfl ?_
     exact k)
   obtain ⟨cl30, Ar30, -, Sz30, -, Hs30, -⟩ := id f0
   have hin30 : ¬ ((5 : Int32) < 0 ∨ cl30.slots.size ≤ (5 : Int32).toNatClampNeg) := inb_of Sz30 ⟨by decide, by decide⟩
   have hat30 : cl30.slots[(5 : Int32).toNatClampNeg]? = some (.int i8) := Hs30.at hin30 rfl
   have p31 : ∀ t, St p e below Tc19 (mkF m 55 Ls2 [(.int i2), (.int i8)]) t → S0 t := fun t k => p29 t (by
     refine Xc19.iaload hx (j := (5 : Int32)) (v := (.int i8)) (by rw [ec19]; exact Ar30.1) (State.isArrayOf_alike hZ.alike Ar30.2.1) Ar30.2.2 hin30 hat30 (g := (mkF m 52 Ls2 [(.int (5 : Int32)), (.ref b0)])) rfl rfl (hb hby d9_52) _ ?_
     refine XS.iload Xc19.here hx rfl (hb hby d9_53) rfl ?_
     exact k)
   obtain ⟨_, _, ⟨Tc32, Lc32, kc32, nc32⟩, -, Xc32, ⟨Lcc32, hQc32, lc32, yc32, zc32⟩, stc32⟩ := Jvm.LawKit.callS Xc19 hx (y := M7) hown (mvT hZ (ww hw 57 rfl)) (mvT hZ (ww hw 58 rfl)) (mvT hZ (ww hw 59 rfl)) (mvT hZ (ww hw 60 rfl)) (by decide) (backOf (W := 0) (rm10_10 l Z a0 hw [] i8 i2 h0 n0 O0  ) hZ (ww hw 60 rfl) (ww hw 59 rfl) (by decide) (by decide)) (g := (mkF m 55 Ls2 [(.int i2), (.int i8)])) rfl (by rw [hml]; rfl) (argsL := [(.int i8), (.int i2)]) (rest := []) (lenOf pd6 rfl) rfl (by show 2 * 0 + _ ≤ _; exact Nat.le_of_eq rfl) (hb hby d9_55) (fun _ _ => ⟨rfl, ec19, (by decide : 0 + 0 ≤ _), (by decide : 0 + 0 ≤ _)⟩)
   dsimp only [Pt.U, Pt.locs, Pt.cells, Pt.slots] at Xc32 lc32 yc32 zc32 stc32 hQc32
   subst lc32 yc32 zc32
   obtain ⟨Nqc32, ec32, hAc32⟩ := hQc32
   have Nc32 := Fr.app Nc19 Nqc32
   rcases hAc32 with ⟨rfl, g33⟩ | ⟨rfl, g34, g35⟩ | ⟨rfl, g36, g37⟩
   ·
    have p38 : ∀ t, St p e below Tc32 (mkF m 58 Ls2 [(.int (-1 : Int32))]) t → S0 t := fun t k => p31 t (stc32 t k)
    let Ls39 : Array Slot := #[.val (.ref b0), .val (.int (3 : Int32)), .val (.int (3 : Int32)), .val (.int i0), .val (.int i1), .val (.int i2), .val (.int (-1 : Int32))]
    have p40 : ∀ t, St p e below Tc32 (mkF m 62 Ls39 [(.int (-1 : Int32))]) t → S0 t := fun t k => p38 t (by
      refine XS.istore Xc32.here hx rfl (hb hby d9_58) rfl (l' := Ls39) rfl ?_
      refine XS.iload Xc32.here hx rfl (hb hby d9_60) rfl ?_
      exact k)
    obtain ⟨fs, hr, hrun, hended, hW, hsame⟩ := Xc32.leave (v := some (.int (-1 : Int32))) (fun h => by rw [Bd.returns] at h; cases h)
    refine ⟨_, _, p40 _ ?_, hrun, hended, _, _, rfl, ?_, ⟨_, rfl⟩, hW, hsame.mono (by decide) (by decide)⟩
    · exact retOut Xc32 hx Bd.returns rfl (Or.inl ⟨rfl, by simp, _, rfl⟩) (hb hby d9_62) hr
    · show Q9_19 Z i0 i1 i2 i3 i4 i5 i6 i7 i8 i9 i10 i11 i12 i13 i14 b0 k1 h0 n0 _ Tc32.heap _
      exact ⟨Nc32, ec32, (congrArg (fun z => some (Value.int z)) (by unfold own_cmp3; (repeat' split) <;> first | rfl | contradiction | (simp_all; done) : (-1 : Int32) = (own_cmp3 i6 i7 i8 i0 i1 i2)))⟩
   ·
    have p41 : ∀ t, St p e below Tc32 (mkF m 58 Ls2 [(.int (0 : Int32))]) t → S0 t := fun t k => p31 t (stc32 t k)
    have p42 : ∀ t, St p e below Tc32 (mkF m 62 Ls2 [(.int (0 : Int32))]) t → S0 t := fun t k => p41 t (by
      refine XS.istore Xc32.here hx rfl (hb hby d9_58) rfl (l' := Ls2) rfl ?_
      refine XS.iload Xc32.here hx rfl (hb hby d9_60) rfl ?_
      exact k)
    obtain ⟨fs, hr, hrun, hended, hW, hsame⟩ := Xc32.leave (v := some (.int (0 : Int32))) (fun h => by rw [Bd.returns] at h; cases h)
    refine ⟨_, _, p42 _ ?_, hrun, hended, _, _, rfl, ?_, ⟨_, rfl⟩, hW, hsame.mono (by decide) (by decide)⟩
    · exact retOut Xc32 hx Bd.returns rfl (Or.inl ⟨rfl, by simp, _, rfl⟩) (hb hby d9_62) hr
    · show Q9_19 Z i0 i1 i2 i3 i4 i5 i6 i7 i8 i9 i10 i11 i12 i13 i14 b0 k1 h0 n0 _ Tc32.heap _
      exact ⟨Nc32, ec32, (congrArg (fun z => some (Value.int z)) (by unfold own_cmp3; (repeat' split) <;> first | rfl | contradiction | (simp_all; done) : (0 : Int32) = (own_cmp3 i6 i7 i8 i0 i1 i2)))⟩
   ·
    have p43 : ∀ t, St p e below Tc32 (mkF m 58 Ls2 [(.int (1 : Int32))]) t → S0 t := fun t k => p31 t (stc32 t k)
    let Ls44 : Array Slot := #[.val (.ref b0), .val (.int (3 : Int32)), .val (.int (3 : Int32)), .val (.int i0), .val (.int i1), .val (.int i2), .val (.int (1 : Int32))]
    have p45 : ∀ t, St p e below Tc32 (mkF m 62 Ls44 [(.int (1 : Int32))]) t → S0 t := fun t k => p43 t (by
      refine XS.istore Xc32.here hx rfl (hb hby d9_58) rfl (l' := Ls44) rfl ?_
      refine XS.iload Xc32.here hx rfl (hb hby d9_60) rfl ?_
      exact k)
    obtain ⟨fs, hr, hrun, hended, hW, hsame⟩ := Xc32.leave (v := some (.int (1 : Int32))) (fun h => by rw [Bd.returns] at h; cases h)
    refine ⟨_, _, p45 _ ?_, hrun, hended, _, _, rfl, ?_, ⟨_, rfl⟩, hW, hsame.mono (by decide) (by decide)⟩
    · exact retOut Xc32 hx Bd.returns rfl (Or.inl ⟨rfl, by simp, _, rfl⟩) (hb hby d9_62) hr
    · show Q9_19 Z i0 i1 i2 i3 i4 i5 i6 i7 i8 i9 i10 i11 i12 i13 i14 b0 k1 h0 n0 _ Tc32.heap _
      exact ⟨Nc32, ec32, (congrArg (fun z => some (Value.int z)) (by unfold own_cmp3; (repeat' split) <;> first | rfl | contradiction | (simp_all; done) : (1 : Int32) = (own_cmp3 i6 i7 i8 i0 i1 i2)))⟩
  ·
   have p46 : ∀ t, St p e below Tc19 (mkF m 36 Ls2 [(.int (1 : Int32))]) t → S0 t := fun t k => p18 t (stc19 t k)
   let Ls47 : Array Slot := #[.val (.ref b0), .val (.int (3 : Int32)), .val (.int (3 : Int32)), .val (.int i0), .val (.int i1), .val (.int i2), .val (.int (1 : Int32))]
   have p48 : ∀ t, St p e below Tc19 (mkF m 62 Ls47 [(.int (1 : Int32))]) t → S0 t := fun t k => p46 t (by
     refine XS.istore Xc19.here hx rfl (hb hby d9_36) rfl (l' := Ls47) rfl ?_
     refine XS.iload Xc19.here hx rfl (hb hby d9_38) rfl ?_
     refine XS.ifYes Xc19.here hx rfl (pc0 := 40) (pc' := 60) rfl (hb hby d9_40) rfl ((if0 _ _).trans (feq (by decide : ¬ ((1 : Int32) = (0 : Int32)))).2) (by decide) (by decide) ?_
     refine XS.iload Xc19.here hx rfl (hb hby d9_60) rfl ?_
     exact k)
   obtain ⟨fs, hr, hrun, hended, hW, hsame⟩ := Xc19.leave (v := some (.int (1 : Int32))) (fun h => by rw [Bd.returns] at h; cases h)
   refine ⟨_, _, p48 _ ?_, hrun, hended, _, _, rfl, ?_, ⟨_, rfl⟩, hW, hsame.mono (by decide) (by decide)⟩
   · exact retOut Xc19 hx Bd.returns rfl (Or.inl ⟨rfl, by simp, _, rfl⟩) (hb hby d9_62) hr
   · show Q9_19 Z i0 i1 i2 i3 i4 i5 i6 i7 i8 i9 i10 i11 i12 i13 i14 b0 k1 h0 n0 _ Tc19.heap _
     exact ⟨Nc19, ec19, (congrArg (fun z => some (Value.int z)) (by unfold own_cmp3; (repeat' split) <;> first | rfl | contradiction | (simp_all; done) : (1 : Int32) = (own_cmp3 i6 i7 i8 i0 i1 i2)))⟩
 ·
  have p49 : ∀ t, St p e below Tc6 (mkF m 14 Ls2 [(.int (1 : Int32))]) t → S0 t := fun t k => p5 t (stc6 t k)
  let Ls50 : Array Slot := #[.val (.ref b0), .val (.int (3 : Int32)), .val (.int (3 : Int32)), .val (.int i0), .val (.int i1), .val (.int i2), .val (.int (1 : Int32))]
  have p51 : ∀ t, St p e below Tc6 (mkF m 62 Ls50 [(.int (1 : Int32))]) t → S0 t := fun t k => p49 t (by
    refine XS.istore Xc6.here hx rfl (hb hby d9_14) rfl (l' := Ls50) rfl ?_
    refine XS.iload Xc6.here hx rfl (hb hby d9_16) rfl ?_
    refine XS.ifYes Xc6.here hx rfl (pc0 := 18) (pc' := 38) rfl (hb hby d9_18) rfl ((if0 _ _).trans (feq (by decide : ¬ ((1 : Int32) = (0 : Int32)))).2) (by decide) (by decide) ?_
    refine XS.iload Xc6.here hx rfl (hb hby d9_38) rfl ?_
    refine XS.ifYes Xc6.here hx rfl (pc0 := 40) (pc' := 60) rfl (hb hby d9_40) rfl ((if0 _ _).trans (feq (by decide : ¬ ((1 : Int32) = (0 : Int32)))).2) (by decide) (by decide) ?_
    show St p e below Tc6 (mkF m 60 Ls50 []) t
    refine XS.iload Xc6.here hx rfl (hb hby d9_60) rfl ?_
    exact k)
  obtain ⟨fs, hr, hrun, hended, hW, hsame⟩ := Xc6.leave (v := some (.int (1 : Int32))) (fun h => by rw [Bd.returns] at h; cases h)
  refine ⟨_, _, p51 _ ?_, hrun, hended, _, _, rfl, ?_, ⟨_, rfl⟩, hW, hsame.mono (by decide) (by decide)⟩
  · exact retOut Xc6 hx Bd.returns rfl (Or.inl ⟨rfl, by simp, _, rfl⟩) (hb hby d9_62) hr
  · show Q9_19 Z i0 i1 i2 i3 i4 i5 i6 i7 i8 i9 i10 i11 i12 i13 i14 b0 k1 h0 n0 _ Tc6.heap _
    exact ⟨Nc6, ec6, (congrArg (fun z => some (Value.int z)) (by unfold own_cmp3; (repeat' split) <;> first | rfl | contradiction | (simp_all; done) : (1 : Int32) = (own_cmp3 i6 i7 i8 i0 i1 i2)))⟩
def Q7_18 (Z : State) (i0 : Int32) (i1 : Int32) (i2 : Int32) (i3 : Int32) (i4 : Int32) (i5 : Int32) (i6 : Int32) (i7 : Int32) (i8 : Int32) (i9 : Int32) (i10 : Int32) (i11 : Int32) (i12 : Int32) (i13 : Int32) (i14 : Int32) (b0 : Addr) (k1 : ClassId) (h0 : Heap) (n0 : Nat) (v : Option Value) (h : Heap) (L : List Loc) : Prop := Fr n0 L ∧ h = h0 ∧ ((v = some (.int (-3 : Int32)) ∧ (own_cmp3 i6 i7 i8 i0 i1 i2) < (0 : Int32)) ∨ (v = some (.int (-2 : Int32)) ∧ ¬ ((own_cmp3 i6 i7 i8 i0 i1 i2) < (0 : Int32)) ∧ (0 : Int32) < (own_cmp3 i6 i7 i8 i0 i1 i2) ∧ (own_cmp3 i3 i4 i5 i0 i1 i2) < (0 : Int32)) ∨ (v = some (.int (-1 : Int32)) ∧ ¬ ((own_cmp3 i6 i7 i8 i0 i1 i2) < (0 : Int32)) ∧ (0 : Int32) < (own_cmp3 i6 i7 i8 i0 i1 i2) ∧ ¬ ((own_cmp3 i3 i4 i5 i0 i1 i2) < (0 : Int32)) ∧ (0 : Int32) < (own_cmp3 i3 i4 i5 i0 i1 i2)) ∨ (v = some (.int (0 : Int32)) ∧ ¬ ((own_cmp3 i6 i7 i8 i0 i1 i2) < (0 : Int32)) ∧ (0 : Int32) < (own_cmp3 i6 i7 i8 i0 i1 i2) ∧ ¬ ((own_cmp3 i3 i4 i5 i0 i1 i2) < (0 : Int32)) ∧ ¬ ((0 : Int32) < (own_cmp3 i3 i4 i5 i0 i1 i2))) ∨ (v = some (.int (1 : Int32)) ∧ ¬ ((own_cmp3 i6 i7 i8 i0 i1 i2) < (0 : Int32)) ∧ ¬ ((0 : Int32) < (own_cmp3 i6 i7 i8 i0 i1 i2))))
set_option maxRecDepth 65536 in
set_option maxHeartbeats 40000000 in
theorem rm7_18 (l : Launch) (Z : State) (a0 : Array Value) (hw : ∀ d ∈ tables_1, d.before a0 Z = true) (ws : List Jvm.Cond) (i0 : Int32) (i1 : Int32) (i2 : Int32) (i3 : Int32) (i4 : Int32) (i5 : Int32) (i6 : Int32) (i7 : Int32) (i8 : Int32) (i9 : Int32) (i10 : Int32) (i11 : Int32) (i12 : Int32) (i13 : Int32) (i14 : Int32) (b0 : Addr) (k1 : ClassId) (h0 : Heap) (n0 : Nat) (O0 : Old Z n0 h0)  (g_b0 : n0 ≤ b0) (f0 : Arv Z h0 b0 k1 .int (12 : Int32) [(.int i3), (.int i4), (.int i5), (.int i6), (.int i7), (.int i8), (.int i9), (.int i10), (.int i11), (.int i12), (.int i13), (.int i14)] (.int (0 : Int32))) (f1 : Exa Z h0 b0 "[I") :
    MetFree l M4 (head1 (Jvm.Cond.code M4 prog_155_method_11_code 9 (some .int) :: ws) ({ frames := 2, cells := 0, slots := 0, locals := 31 } : Room)) (fun a U => a = #[(.ref b0), (.int (2 : Int32)), (.int i0), (.int i1), (.int i2)] ∧ Z.Warmed39 U.vm ∧ U.heap = h0) (fun _ _ _ _ _ => True) (fun _ U o U' => ∃ v L, o = .returned v ∧ Q7_18 Z i0 i1 i2 i3 i4 i5 i6 i7 i8 i9 i10 i11 i12 i13 i14 b0 k1 h0 n0 v U'.heap L ∧ FrameEnd U o U' L ({ frames := 2, cells := 0, slots := 0, locals := 31 } : Room).cells ({ frames := 2, cells := 0, slots := 0, locals := 31 } : Room).slots) := by
 refine MetFree.of_bodySF (plainFor_of_name pn1) hisR ?_
 intro p e s m args below meth c s₁ Bd hml0 hP hK
 obtain ⟨rfl, hZ, hh⟩ := hP
 have hx := Bd.exec
 have hby := Bd.bytes
 have hml : c.maxLocals = 9 := hml0
 have hown : s.vm.findClass "com/example/quadrille/quadrille/store/SortedTriples" = some m.cls := findClass_of_methodNamed Bd.named
 have hnm := (name_of_methodNamed Bd.named Bd.method).1
 have X0 : Stand p l e ({ frames := 2, cells := 0, slots := 0, locals := 31 } : Room) s m #[(.ref b0), (.int (2 : Int32)), (.int i0), (.int i1), (.int i2)] below meth c s₁ [] 0 0 := Stand.of_body Bd
 have e0 : s₁.heap = h0 := by rw [← hh, Bd.state]; rfl
 have N0 := Fr.nil n0
 let S0 : State → Prop := fun t => Steps p.tables e below (s₁.setTop (entryFrame m #[(.ref b0), (.int (2 : Int32)), (.int i0), (.int i1), (.int i2)] 9)) t
 let Ls1 : Array Slot := #[.val (.ref b0), .val (.int (2 : Int32)), .val (.int i0), .val (.int i1), .val (.int i2), .unset, .unset, .unset, .unset]
 have p0 : ∀ t, St p e below s₁ (mkF m 0 Ls1 []) t → S0 t := fun t k => castTop (ef6 m b0 (2 : Int32) i0 i1 i2) k
 let Ls2 : Array Slot := #[.val (.ref b0), .val (.int (2 : Int32)), .val (.int i0), .val (.int i1), .val (.int i2), .val (.int (0 : Int32)), .unset, .unset, .unset]
 let Ls3 : Array Slot := #[.val (.ref b0), .val (.int (2 : Int32)), .val (.int i0), .val (.int i1), .val (.int i2), .val (.int (0 : Int32)), .val (.int (2 : Int32)), .unset, .unset]
 let Ls4 : Array Slot := #[.val (.ref b0), .val (.int (2 : Int32)), .val (.int i0), .val (.int i1), .val (.int i2), .val (.int (0 : Int32)), .val (.int (2 : Int32)), .val (.int (1 : Int32)), .unset]
 have p5 : ∀ t, St p e below s₁ (mkF m 32 Ls4 [(.int i2), (.int i1), (.int i0), (.int (3 : Int32)), (.int (3 : Int32)), (.ref b0)]) t → S0 t := fun t k => p0 t (by
   refine XT.iconstV X0.here hx rfl (0 : Int32) (hb hby d7_0) (by decide) ?_
   refine XS.istore X0.here hx rfl (hb hby d7_1) rfl (l' := Ls2) rfl ?_
   refine XS.iloadN X0.here hx rfl (hb hby d7_3) rfl ?_
   refine XS.istore X0.here hx rfl (hb hby d7_4) rfl (l' := Ls3) rfl ?_
   refine XS.iload X0.here hx rfl (hb hby d7_6) rfl ?_
   show St p e below s₁ (mkF m 8 Ls3 [(.int (0 : Int32))]) t
   refine XS.iload X0.here hx rfl (hb hby d7_8) rfl ?_
   refine XS.icmpNo X0.here hx rfl (hb hby d7_10) rfl (tlt (by decide : (0 : Int32) < (2 : Int32))).2.1 ?_
   refine XS.iload X0.here hx rfl (hb hby d7_13) rfl ?_
   refine XS.iload X0.here hx rfl (hb hby d7_15) rfl ?_
   refine XS.iadd X0.here hx rfl (hb hby d7_17) rfl ?_
   refine XT.iconstV X0.here hx rfl (1 : Int32) (hb hby d7_18) (by decide) ?_
   show St p e below s₁ (mkF m 19 Ls3 [(.int (1 : Int32)), (.int (2 : Int32))]) t
   refine XS.iushr X0.here hx rfl (hb hby d7_19) rfl ?_
   refine XS.istore X0.here hx rfl (hb hby d7_20) rfl (l' := Ls4) rfl ?_
   refine XS.aloadN X0.here hx rfl (hb hby d7_22) rfl rfl ?_
   refine XS.iload X0.here hx rfl (hb hby d7_23) rfl ?_
   refine XT.iconstV X0.here hx rfl (3 : Int32) (hb hby d7_25) (by decide) ?_
   refine XS.imul X0.here hx rfl (hb hby d7_26) rfl ?_
   show St p e below s₁ (mkF m 27 Ls4 [(.int (3 : Int32)), (.ref b0)]) t
   refine XT.iconstV X0.here hx rfl (3 : Int32) (hb hby d7_27) (by decide) ?_
   refine XS.iloadN X0.here hx rfl (hb hby d7_28) rfl ?_
   refine XS.iloadN X0.here hx rfl (hb hby d7_29) rfl ?_
   refine XS.iload X0.here hx rfl (hb hby d7_30) rfl ?_
   exact k)
 obtain ⟨_, _, ⟨Tc6, Lc6, kc6, nc6⟩, -, Xc6, ⟨Lcc6, hQc6, lc6, yc6, zc6⟩, stc6⟩ := Jvm.LawKit.callS X0 hx (y := M8) hown (mvT hZ (ww hw 54 rfl)) (mvT hZ (ww hw 55 rfl)) (mvT hZ (ww hw 2 rfl)) (mvT hZ (ww hw 56 rfl)) (by decide) (backOf (W := 0) (rm9_19 l Z a0 hw [] i0 i1 i2 i3 i4 i5 i6 i7 i8 i9 i10 i11 i12 i13 i14 b0 k1 h0 n0 O0  g_b0 f0 f1) hZ (ww hw 56 rfl) (ww hw 2 rfl) (by decide) (by decide)) (g := (mkF m 32 Ls4 [(.int i2), (.int i1), (.int i0), (.int (3 : Int32)), (.int (3 : Int32)), (.ref b0)])) rfl (by rw [hml]; rfl) (argsL := [(.ref b0), (.int (3 : Int32)), (.int (3 : Int32)), (.int i0), (.int i1), (.int i2)]) (rest := []) (lenOf pd7 rfl) rfl (by show 2 * 0 + _ ≤ _; exact Nat.le_of_eq rfl) (hb hby d7_32) (fun _ _ => ⟨rfl, e0, (by decide : 0 + 0 ≤ _), (by decide : 0 + 0 ≤ _)⟩)
 dsimp only [Pt.U, Pt.locs, Pt.cells, Pt.slots] at Xc6 lc6 yc6 zc6 stc6 hQc6
 subst lc6 yc6 zc6
 obtain ⟨Nqc6, ec6, hAc6⟩ := hQc6
 have Nc6 := Fr.app N0 Nqc6
 obtain rfl := hAc6
 have p7 : ∀ t, St p e below Tc6 (mkF m 35 Ls4 [(.int (own_cmp3 i6 i7 i8 i0 i1 i2))]) t → S0 t := fun t k => p5 t (stc6 t k)
 let Ls8 : Array Slot := #[.val (.ref b0), .val (.int (2 : Int32)), .val (.int i0), .val (.int i1), .val (.int i2), .val (.int (0 : Int32)), .val (.int (2 : Int32)), .val (.int (1 : Int32)), .val (.int (own_cmp3 i6 i7 i8 i0 i1 i2))]
 have p9 : ∀ t, St p e below Tc6 (mkF m 39 Ls8 [(.int (own_cmp3 i6 i7 i8 i0 i1 i2))]) t → S0 t := fun t k => p7 t (by
   refine XS.istore Xc6.here hx rfl (hb hby d7_35) rfl (l' := Ls8) rfl ?_
   refine XS.iload Xc6.here hx rfl (hb hby d7_37) rfl ?_
   exact k)
 by_cases g10 : (own_cmp3 i6 i7 i8 i0 i1 i2) < (0 : Int32)
 ·
  let Ls11 : Array Slot := #[.val (.ref b0), .val (.int (2 : Int32)), .val (.int i0), .val (.int i1), .val (.int i2), .val (.int (2 : Int32)), .val (.int (2 : Int32)), .val (.int (1 : Int32)), .val (.int (own_cmp3 i6 i7 i8 i0 i1 i2))]
  have p12 : ∀ t, St p e below Tc6 (mkF m 74 Ls11 [(.int (-3 : Int32))]) t → S0 t := fun t k => p9 t (by
    refine XS.ifNo Xc6.here hx rfl (hb hby d7_39) rfl ((if0 _ _).trans (tlt g10).2.1) ?_
    refine XS.iload Xc6.here hx rfl (hb hby d7_42) rfl ?_
    refine XT.iconstV Xc6.here hx rfl (1 : Int32) (hb hby d7_44) (by decide) ?_
    refine XS.iadd Xc6.here hx rfl (hb hby d7_45) rfl ?_
    refine XS.istore Xc6.here hx rfl (hb hby d7_46) rfl (l' := Ls11) rfl ?_
    show St p e below Tc6 (mkF m 48 Ls11 []) t
    refine XS.goto Xc6.here hx rfl (pc0 := 48) (pc' := 66) rfl (hb hby d7_48) (by decide) (by decide) ?_
    refine XS.goto Xc6.here hx rfl (pc0 := 66) (pc' := 6) rfl (hb hby d7_66) (by decide) (by decide) ?_
    refine XS.iload Xc6.here hx rfl (hb hby d7_6) rfl ?_
    refine XS.iload Xc6.here hx rfl (hb hby d7_8) rfl ?_
    refine XS.icmpYes Xc6.here hx rfl (pc0 := 10) (pc' := 69) rfl (hb hby d7_10) rfl (flt (by decide : ¬ ((2 : Int32) < (2 : Int32)))).2.1 (by decide) (by decide) ?_
    refine XS.iload Xc6.here hx rfl (hb hby d7_69) rfl ?_
    show St p e below Tc6 (mkF m 71 Ls11 [(.int (2 : Int32))]) t
    refine XS.ineg Xc6.here hx rfl (hb hby d7_71) rfl ?_
    refine XT.iconstV Xc6.here hx rfl (1 : Int32) (hb hby d7_72) (by decide) ?_
    refine XS.isub Xc6.here hx rfl (hb hby d7_73) rfl ?_
    exact k)
  obtain ⟨fs, hr, hrun, hended, hW, hsame⟩ := Xc6.leave (v := some (.int (-3 : Int32))) (fun h => by rw [Bd.returns] at h; cases h)
  refine ⟨_, _, p12 _ ?_, hrun, hended, _, _, rfl, ?_, ⟨_, rfl⟩, hW, hsame.mono (by decide) (by decide)⟩
  · exact retOut Xc6 hx Bd.returns rfl (Or.inl ⟨rfl, by simp, _, rfl⟩) (hb hby d7_74) hr
  · show Q7_18 Z i0 i1 i2 i3 i4 i5 i6 i7 i8 i9 i10 i11 i12 i13 i14 b0 k1 h0 n0 _ Tc6.heap _
    exact ⟨Nc6, ec6, (Or.inl ⟨rfl, g10⟩)⟩
 ·
  have p13 : ∀ t, St p e below Tc6 (mkF m 53 Ls8 [(.int (own_cmp3 i6 i7 i8 i0 i1 i2))]) t → S0 t := fun t k => p9 t (by
    refine XS.ifYes Xc6.here hx rfl (pc0 := 39) (pc' := 51) rfl (hb hby d7_39) rfl ((if0 _ _).trans (flt g10).2.1) (by decide) (by decide) ?_
    refine XS.iload Xc6.here hx rfl (hb hby d7_51) rfl ?_
    exact k)
  by_cases g14 : (0 : Int32) < (own_cmp3 i6 i7 i8 i0 i1 i2)
  ·
   let Ls15 : Array Slot := #[.val (.ref b0), .val (.int (2 : Int32)), .val (.int i0), .val (.int i1), .val (.int i2), .val (.int (0 : Int32)), .val (.int (1 : Int32)), .val (.int (1 : Int32)), .val (.int (own_cmp3 i6 i7 i8 i0 i1 i2))]
   let Ls16 : Array Slot := #[.val (.ref b0), .val (.int (2 : Int32)), .val (.int i0), .val (.int i1), .val (.int i2), .val (.int (0 : Int32)), .val (.int (1 : Int32)), .val (.int (0 : Int32)), .val (.int (own_cmp3 i6 i7 i8 i0 i1 i2))]
   have p17 : ∀ t, St p e below Tc6 (mkF m 32 Ls16 [(.int i2), (.int i1), (.int i0), (.int (3 : Int32)), (.int (0 : Int32)), (.ref b0)]) t → S0 t := fun t k => p13 t (by
     refine XS.ifNo Xc6.here hx rfl (hb hby d7_53) rfl ((if0 _ _).trans (tlt g14).2.2.2) ?_
     refine XS.iload Xc6.here hx rfl (hb hby d7_56) rfl ?_
     refine XS.istore Xc6.here hx rfl (hb hby d7_58) rfl (l' := Ls15) rfl ?_
     refine XS.goto Xc6.here hx rfl (pc0 := 60) (pc' := 66) rfl (hb hby d7_60) (by decide) (by decide) ?_
     refine XS.goto Xc6.here hx rfl (pc0 := 66) (pc' := 6) rfl (hb hby d7_66) (by decide) (by decide) ?_
     show St p e below Tc6 (mkF m 6 Ls15 []) t
     refine XS.iload Xc6.here hx rfl (hb hby d7_6) rfl ?_
     refine XS.iload Xc6.here hx rfl (hb hby d7_8) rfl ?_
     refine XS.icmpNo Xc6.here hx rfl (hb hby d7_10) rfl (tlt (by decide : (0 : Int32) < (1 : Int32))).2.1 ?_
     refine XS.iload Xc6.here hx rfl (hb hby d7_13) rfl ?_
     refine XS.iload Xc6.here hx rfl (hb hby d7_15) rfl ?_
     refine XS.iadd Xc6.here hx rfl (hb hby d7_17) rfl ?_
     show St p e below Tc6 (mkF m 18 Ls15 [(.int (1 : Int32))]) t
     refine XT.iconstV Xc6.here hx rfl (1 : Int32) (hb hby d7_18) (by decide) ?_
     refine XS.iushr Xc6.here hx rfl (hb hby d7_19) rfl ?_
     refine XS.istore Xc6.here hx rfl (hb hby d7_20) rfl (l' := Ls16) rfl ?_
     refine XS.aloadN Xc6.here hx rfl (hb hby d7_22) rfl rfl ?_
     refine XS.iload Xc6.here hx rfl (hb hby d7_23) rfl ?_
     refine XT.iconstV Xc6.here hx rfl (3 : Int32) (hb hby d7_25) (by decide) ?_
     show St p e below Tc6 (mkF m 26 Ls16 [(.int (3 : Int32)), (.int (0 : Int32)), (.ref b0)]) t
     refine XS.imul Xc6.here hx rfl (hb hby d7_26) rfl ?_
     refine XT.iconstV Xc6.here hx rfl (3 : Int32) (hb hby d7_27) (by decide) ?_
     refine XS.iloadN Xc6.here hx rfl (hb hby d7_28) rfl ?_
     refine XS.iloadN Xc6.here hx rfl (hb hby d7_29) rfl ?_
     refine XS.iload Xc6.here hx rfl (hb hby d7_30) rfl ?_
     exact k)
   obtain ⟨_, _, ⟨Tc18, Lc18, kc18, nc18⟩, -, Xc18, ⟨Lcc18, hQc18, lc18, yc18, zc18⟩, stc18⟩ := Jvm.LawKit.callS Xc6 hx (y := M8) hown (mvT hZ (ww hw 54 rfl)) (mvT hZ (ww hw 55 rfl)) (mvT hZ (ww hw 2 rfl)) (mvT hZ (ww hw 56 rfl)) (by decide) (backOf (W := 0) (rm9_9 l Z a0 hw [] i0 i1 i2 i3 i4 i5 i6 i7 i8 i9 i10 i11 i12 i13 i14 b0 k1 h0 n0 O0  g_b0 f0 f1) hZ (ww hw 56 rfl) (ww hw 2 rfl) (by decide) (by decide)) (g := (mkF m 32 Ls16 [(.int i2), (.int i1), (.int i0), (.int (3 : Int32)), (.int (0 : Int32)), (.ref b0)])) rfl (by rw [hml]; rfl) (argsL := [(.ref b0), (.int (0 : Int32)), (.int (3 : Int32)), (.int i0), (.int i1), (.int i2)]) (rest := []) (lenOf pd7 rfl) rfl (by show 2 * 0 + _ ≤ _; exact Nat.le_of_eq rfl) (hb hby d7_32) (fun _ _ => ⟨rfl, ec6, (by decide : 0 + 0 ≤ _), (by decide : 0 + 0 ≤ _)⟩)
   dsimp only [Pt.U, Pt.locs, Pt.cells, Pt.slots] at Xc18 lc18 yc18 zc18 stc18 hQc18
   subst lc18 yc18 zc18
   obtain ⟨Nqc18, ec18, hAc18⟩ := hQc18
   have Nc18 := Fr.app Nc6 Nqc18
   obtain rfl := hAc18
   have p19 : ∀ t, St p e below Tc18 (mkF m 35 Ls16 [(.int (own_cmp3 i3 i4 i5 i0 i1 i2))]) t → S0 t := fun t k => p17 t (stc18 t k)
   let Ls20 : Array Slot := #[.val (.ref b0), .val (.int (2 : Int32)), .val (.int i0), .val (.int i1), .val (.int i2), .val (.int (0 : Int32)), .val (.int (1 : Int32)), .val (.int (0 : Int32)), .val (.int (own_cmp3 i3 i4 i5 i0 i1 i2))]
   have p21 : ∀ t, St p e below Tc18 (mkF m 39 Ls20 [(.int (own_cmp3 i3 i4 i5 i0 i1 i2))]) t → S0 t := fun t k => p19 t (by
     refine XS.istore Xc18.here hx rfl (hb hby d7_35) rfl (l' := Ls20) rfl ?_
     refine XS.iload Xc18.here hx rfl (hb hby d7_37) rfl ?_
     exact k)
   by_cases g22 : (own_cmp3 i3 i4 i5 i0 i1 i2) < (0 : Int32)
   ·
    let Ls23 : Array Slot := #[.val (.ref b0), .val (.int (2 : Int32)), .val (.int i0), .val (.int i1), .val (.int i2), .val (.int (1 : Int32)), .val (.int (1 : Int32)), .val (.int (0 : Int32)), .val (.int (own_cmp3 i3 i4 i5 i0 i1 i2))]
    have p24 : ∀ t, St p e below Tc18 (mkF m 74 Ls23 [(.int (-2 : Int32))]) t → S0 t := fun t k => p21 t (by
      refine XS.ifNo Xc18.here hx rfl (hb hby d7_39) rfl ((if0 _ _).trans (tlt g22).2.1) ?_
      refine XS.iload Xc18.here hx rfl (hb hby d7_42) rfl ?_
      refine XT.iconstV Xc18.here hx rfl (1 : Int32) (hb hby d7_44) (by decide) ?_
      refine XS.iadd Xc18.here hx rfl (hb hby d7_45) rfl ?_
      refine XS.istore Xc18.here hx rfl (hb hby d7_46) rfl (l' := Ls23) rfl ?_
      show St p e below Tc18 (mkF m 48 Ls23 []) t
      refine XS.goto Xc18.here hx rfl (pc0 := 48) (pc' := 66) rfl (hb hby d7_48) (by decide) (by decide) ?_
      refine XS.goto Xc18.here hx rfl (pc0 := 66) (pc' := 6) rfl (hb hby d7_66) (by decide) (by decide) ?_
      refine XS.iload Xc18.here hx rfl (hb hby d7_6) rfl ?_
      refine XS.iload Xc18.here hx rfl (hb hby d7_8) rfl ?_
      refine XS.icmpYes Xc18.here hx rfl (pc0 := 10) (pc' := 69) rfl (hb hby d7_10) rfl (flt (by decide : ¬ ((1 : Int32) < (1 : Int32)))).2.1 (by decide) (by decide) ?_
      refine XS.iload Xc18.here hx rfl (hb hby d7_69) rfl ?_
      show St p e below Tc18 (mkF m 71 Ls23 [(.int (1 : Int32))]) t
      refine XS.ineg Xc18.here hx rfl (hb hby d7_71) rfl ?_
      refine XT.iconstV Xc18.here hx rfl (1 : Int32) (hb hby d7_72) (by decide) ?_
      refine XS.isub Xc18.here hx rfl (hb hby d7_73) rfl ?_
      exact k)
    obtain ⟨fs, hr, hrun, hended, hW, hsame⟩ := Xc18.leave (v := some (.int (-2 : Int32))) (fun h => by rw [Bd.returns] at h; cases h)
    refine ⟨_, _, p24 _ ?_, hrun, hended, _, _, rfl, ?_, ⟨_, rfl⟩, hW, hsame.mono (by decide) (by decide)⟩
    · exact retOut Xc18 hx Bd.returns rfl (Or.inl ⟨rfl, by simp, _, rfl⟩) (hb hby d7_74) hr
    · show Q7_18 Z i0 i1 i2 i3 i4 i5 i6 i7 i8 i9 i10 i11 i12 i13 i14 b0 k1 h0 n0 _ Tc18.heap _
      exact ⟨Nc18, ec18, (Or.inr (Or.inl ⟨rfl, g10, g14, g22⟩))⟩
   ·
    have p25 : ∀ t, St p e below Tc18 (mkF m 53 Ls20 [(.int (own_cmp3 i3 i4 i5 i0 i1 i2))]) t → S0 t := fun t k => p21 t (by
      refine XS.ifYes Xc18.here hx rfl (pc0 := 39) (pc' := 51) rfl (hb hby d7_39) rfl ((if0 _ _).trans (flt g22).2.1) (by decide) (by decide) ?_
      refine XS.iload Xc18.here hx rfl (hb hby d7_51) rfl ?_
      exact k)
    by_cases g26 : (0 : Int32) < (own_cmp3 i3 i4 i5 i0 i1 i2)
    ·
     let Ls27 : Array Slot := #[.val (.ref b0), .val (.int (2 : Int32)), .val (.int i0), .val (.int i1), .val (.int i2), .val (.int (0 : Int32)), .val (.int (0 : Int32)), .val (.int (0 : Int32)), .val (.int (own_cmp3 i3 i4 i5 i0 i1 i2))]
     have p28 : ∀ t, St p e below Tc18 (mkF m 74 Ls27 [(.int (-1 : Int32))]) t → S0 t := fun t k => p25 t (by
       refine XS.ifNo Xc18.here hx rfl (hb hby d7_53) rfl ((if0 _ _).trans (tlt g26).2.2.2) ?_
       refine XS.iload Xc18.here hx rfl (hb hby d7_56) rfl ?_
       refine XS.istore Xc18.here hx rfl (hb hby d7_58) rfl (l' := Ls27) rfl ?_
       refine XS.goto Xc18.here hx rfl (pc0 := 60) (pc' := 66) rfl (hb hby d7_60) (by decide) (by decide) ?_
       refine XS.goto Xc18.here hx rfl (pc0 := 66) (pc' := 6) rfl (hb hby d7_66) (by decide) (by decide) ?_
       show St p e below Tc18 (mkF m 6 Ls27 []) t
       refine XS.iload Xc18.here hx rfl (hb hby d7_6) rfl ?_
       refine XS.iload Xc18.here hx rfl (hb hby d7_8) rfl ?_
       refine XS.icmpYes Xc18.here hx rfl (pc0 := 10) (pc' := 69) rfl (hb hby d7_10) rfl (flt (by decide : ¬ ((0 : Int32) < (0 : Int32)))).2.1 (by decide) (by decide) ?_
       refine XS.iload Xc18.here hx rfl (hb hby d7_69) rfl ?_
       refine XS.ineg Xc18.here hx rfl (hb hby d7_71) rfl ?_
       refine XT.iconstV Xc18.here hx rfl (1 : Int32) (hb hby d7_72) (by decide) ?_
       show St p e below Tc18 (mkF m 73 Ls27 [(.int (1 : Int32)), (.int (0 : Int32))]) t
       refine XS.isub Xc18.here hx rfl (hb hby d7_73) rfl ?_
       exact k)
     obtain ⟨fs, hr, hrun, hended, hW, hsame⟩ := Xc18.leave (v := some (.int (-1 : Int32))) (fun h => by rw [Bd.returns] at h; cases h)
     refine ⟨_, _, p28 _ ?_, hrun, hended, _, _, rfl, ?_, ⟨_, rfl⟩, hW, hsame.mono (by decide) (by decide)⟩
     · exact retOut Xc18 hx Bd.returns rfl (Or.inl ⟨rfl, by simp, _, rfl⟩) (hb hby d7_74) hr
     · show Q7_18 Z i0 i1 i2 i3 i4 i5 i6 i7 i8 i9 i10 i11 i12 i13 i14 b0 k1 h0 n0 _ Tc18.heap _
       exact ⟨Nc18, ec18, (Or.inr (Or.inr (Or.inl ⟨rfl, g10, g14, g22, g26⟩)))⟩
    ·
     have p29 : ∀ t, St p e below Tc18 (mkF m 65 Ls20 [(.int (0 : Int32))]) t → S0 t := fun t k => p25 t (by
       refine XS.ifYes Xc18.here hx rfl (pc0 := 53) (pc' := 63) rfl (hb hby d7_53) rfl ((if0 _ _).trans (flt g26).2.2.2) (by decide) (by decide) ?_
       refine XS.iload Xc18.here hx rfl (hb hby d7_63) rfl ?_
       exact k)
     obtain ⟨fs, hr, hrun, hended, hW, hsame⟩ := Xc18.leave (v := some (.int (0 : Int32))) (fun h => by rw [Bd.returns] at h; cases h)
     refine ⟨_, _, p29 _ ?_, hrun, hended, _, _, rfl, ?_, ⟨_, rfl⟩, hW, hsame.mono (by decide) (by decide)⟩
     · exact retOut Xc18 hx Bd.returns rfl (Or.inl ⟨rfl, by simp, _, rfl⟩) (hb hby d7_65) hr
     · show Q7_18 Z i0 i1 i2 i3 i4 i5 i6 i7 i8 i9 i10 i11 i12 i13 i14 b0 k1 h0 n0 _ Tc18.heap _
       exact ⟨Nc18, ec18, (Or.inr (Or.inr (Or.inr (Or.inl ⟨rfl, g10, g14, g22, g26⟩))))⟩
  ·
   have p30 : ∀ t, St p e below Tc6 (mkF m 65 Ls8 [(.int (1 : Int32))]) t → S0 t := fun t k => p13 t (by
     refine XS.ifYes Xc6.here hx rfl (pc0 := 53) (pc' := 63) rfl (hb hby d7_53) rfl ((if0 _ _).trans (flt g14).2.2.2) (by decide) (by decide) ?_
     refine XS.iload Xc6.here hx rfl (hb hby d7_63) rfl ?_
     exact k)
   obtain ⟨fs, hr, hrun, hended, hW, hsame⟩ := Xc6.leave (v := some (.int (1 : Int32))) (fun h => by rw [Bd.returns] at h; cases h)
   refine ⟨_, _, p30 _ ?_, hrun, hended, _, _, rfl, ?_, ⟨_, rfl⟩, hW, hsame.mono (by decide) (by decide)⟩
   · exact retOut Xc6 hx Bd.returns rfl (Or.inl ⟨rfl, by simp, _, rfl⟩) (hb hby d7_65) hr
   · show Q7_18 Z i0 i1 i2 i3 i4 i5 i6 i7 i8 i9 i10 i11 i12 i13 i14 b0 k1 h0 n0 _ Tc6.heap _
     exact ⟨Nc6, ec6, (Or.inr (Or.inr (Or.inr (Or.inr (⟨rfl, g10, g14⟩)))))⟩
def Q15_17 (Z : State) (i0 : Int32) (i1 : Int32) (i2 : Int32) (i3 : Int32) (i4 : Int32) (i5 : Int32) (i6 : Int32) (i7 : Int32) (i8 : Int32) (i9 : Int32) (i10 : Int32) (i11 : Int32) (i12 : Int32) (i13 : Int32) (i14 : Int32) (b0 : Addr) (b1 : Addr) (b2 : Addr) (b3 : Addr) (k4 : ClassId) (k5 : ClassId) (k6 : ClassId) (h0 : Heap) (n0 : Nat) (v : Option Value) (h : Heap) (L : List Loc) : Prop := Fr n0 L ∧ h = h0 ∧ ((v = some (.int (0 : Int32)) ∧ (own_cmp3 i6 i7 i8 i0 i1 i2) < (0 : Int32)) ∨ (v = some (.int (0 : Int32)) ∧ ¬ ((own_cmp3 i6 i7 i8 i0 i1 i2) < (0 : Int32)) ∧ (0 : Int32) < (own_cmp3 i6 i7 i8 i0 i1 i2) ∧ (own_cmp3 i3 i4 i5 i0 i1 i2) < (0 : Int32)) ∨ (v = some (.int (0 : Int32)) ∧ ¬ ((own_cmp3 i6 i7 i8 i0 i1 i2) < (0 : Int32)) ∧ (0 : Int32) < (own_cmp3 i6 i7 i8 i0 i1 i2) ∧ ¬ ((own_cmp3 i3 i4 i5 i0 i1 i2) < (0 : Int32)) ∧ (0 : Int32) < (own_cmp3 i3 i4 i5 i0 i1 i2)) ∨ (v = some (.int (1 : Int32)) ∧ ¬ ((own_cmp3 i6 i7 i8 i0 i1 i2) < (0 : Int32)) ∧ (0 : Int32) < (own_cmp3 i6 i7 i8 i0 i1 i2) ∧ ¬ ((own_cmp3 i3 i4 i5 i0 i1 i2) < (0 : Int32)) ∧ ¬ ((0 : Int32) < (own_cmp3 i3 i4 i5 i0 i1 i2))) ∨ (v = some (.int (1 : Int32)) ∧ ¬ ((own_cmp3 i6 i7 i8 i0 i1 i2) < (0 : Int32)) ∧ ¬ ((0 : Int32) < (own_cmp3 i6 i7 i8 i0 i1 i2))))
set_option maxRecDepth 65536 in
set_option maxHeartbeats 40000000 in
theorem rm15_17 (l : Launch) (Z : State) (a0 : Array Value) (hw : ∀ d ∈ tables_1, d.before a0 Z = true) (ws : List Jvm.Cond) (i0 : Int32) (i1 : Int32) (i2 : Int32) (i3 : Int32) (i4 : Int32) (i5 : Int32) (i6 : Int32) (i7 : Int32) (i8 : Int32) (i9 : Int32) (i10 : Int32) (i11 : Int32) (i12 : Int32) (i13 : Int32) (i14 : Int32) (b0 : Addr) (b1 : Addr) (b2 : Addr) (b3 : Addr) (k4 : ClassId) (k5 : ClassId) (k6 : ClassId) (h0 : Heap) (n0 : Nat) (O0 : Old Z n0 h0)  (g_b0 : n0 ≤ b0) (g_b1 : n0 ≤ b1) (g_b2 : n0 ≤ b2) (g_b3 : n0 ≤ b3) (ne_b0_b1 : b0 ≠ b1) (ne_b0_b2 : b0 ≠ b2) (ne_b0_b3 : b0 ≠ b3) (ne_b1_b2 : b1 ≠ b2) (ne_b1_b3 : b1 ≠ b3) (ne_b2_b3 : b2 ≠ b3) (f0 : Exa Z h0 b0 "com/example/quadrille/quadrille/store/SortedTriples") (f1 : Fld Z h0 b0 "com/example/quadrille/quadrille/store/SortedTriples" "blocks" "[[I" (.ref b1)) (f2 : Fld Z h0 b0 "com/example/quadrille/quadrille/store/SortedTriples" "counts" "[I" (.ref b2)) (f3 : Fld Z h0 b0 "com/example/quadrille/quadrille/store/SortedTriples" "blockCount" "I" (.int (1 : Int32))) (f4 : Arv Z h0 b1 k4 (.array .int) (4 : Int32) [(.ref b3), .null, .null, .null] .null) (f5 : Exa Z h0 b1 "[[I") (f6 : Arv Z h0 b2 k5 .int (4 : Int32) [(.int (2 : Int32)), (.int (0 : Int32)), (.int (0 : Int32)), (.int (0 : Int32))] (.int (0 : Int32))) (f7 : Exa Z h0 b2 "[I") (f8 : Arv Z h0 b3 k6 .int (12 : Int32) [(.int i3), (.int i4), (.int i5), (.int i6), (.int i7), (.int i8), (.int i9), (.int i10), (.int i11), (.int i12), (.int i13), (.int i14)] (.int (0 : Int32))) (f9 : Exa Z h0 b3 "[I") :
    MetFree l M11 (head1 (Jvm.Cond.code M11 prog_155_method_5_code 5 (some .boolean) :: ws) ({ frames := 3, cells := 0, slots := 0, locals := 51 } : Room)) (fun a U => a = #[(.ref b0), (.int i0), (.int i1), (.int i2)] ∧ Z.Warmed39 U.vm ∧ U.heap = h0) (fun _ _ _ _ _ => True) (fun _ U o U' => ∃ v L, o = .returned v ∧ Q15_17 Z i0 i1 i2 i3 i4 i5 i6 i7 i8 i9 i10 i11 i12 i13 i14 b0 b1 b2 b3 k4 k5 k6 h0 n0 v U'.heap L ∧ FrameEnd U o U' L ({ frames := 3, cells := 0, slots := 0, locals := 51 } : Room).cells ({ frames := 3, cells := 0, slots := 0, locals := 51 } : Room).slots) := by
 refine MetFree.of_bodySF (plainFor_of_name pn1) hisR ?_
 intro p e s m args below meth c s₁ Bd hml0 hP hK
 obtain ⟨rfl, hZ, hh⟩ := hP
 have hx := Bd.exec
 have hby := Bd.bytes
 have hml : c.maxLocals = 5 := hml0
 have hown : s.vm.findClass "com/example/quadrille/quadrille/store/SortedTriples" = some m.cls := findClass_of_methodNamed Bd.named
 have hnm := (name_of_methodNamed Bd.named Bd.method).1
 have X0 : Stand p l e ({ frames := 3, cells := 0, slots := 0, locals := 51 } : Room) s m #[(.ref b0), (.int i0), (.int i1), (.int i2)] below meth c s₁ [] 0 0 := Stand.of_body Bd
 have e0 : s₁.heap = h0 := by rw [← hh, Bd.state]; rfl
 have N0 := Fr.nil n0
 let S0 : State → Prop := fun t => Steps p.tables e below (s₁.setTop (entryFrame m #[(.ref b0), (.int i0), (.int i1), (.int i2)] 5)) t
 let Ls1 : Array Slot := #[.val (.ref b0), .val (.int i0), .val (.int i1), .val (.int i2), .unset]
 have p0 : ∀ t, St p e below s₁ (mkF m 0 Ls1 []) t → S0 t := fun t k => castTop (ef12 m b0 i0 i1 i2) k
 have p2 : ∀ t, St p e below s₁ (mkF m 1 Ls1 [(.ref b0)]) t → S0 t := fun t k => p0 t (by
   refine XS.aloadN X0.here hx rfl (hb hby d15_0) rfl rfl ?_
   exact k)
 obtain ⟨T3, X3, e3, st3⟩ := getF X0 hx hZ hown (host := "") (Or.inl (ww hw 30 rfl)) Via.refl e0 f3 (g := (mkF m 1 Ls1 [(.ref b0)])) rfl rfl (hb hby d15_1)
 have p4 : ∀ t, St p e below T3 (mkF m 4 Ls1 [(.int (1 : Int32))]) t → S0 t := fun t k => p2 t (st3 t k)
 have p5 : ∀ t, St p e below T3 (mkF m 13 Ls1 [(.int i2), (.int i1), (.int i0), (.ref b0)]) t → S0 t := fun t k => p4 t (by
   refine XS.ifYes X3.here hx rfl (pc0 := 4) (pc' := 9) rfl (hb hby d15_4) rfl ((if0 _ _).trans (feq (by decide : ¬ ((1 : Int32) = (0 : Int32)))).2) (by decide) (by decide) ?_
   refine XS.aloadN X3.here hx rfl (hb hby d15_9) rfl rfl ?_
   refine XS.iloadN X3.here hx rfl (hb hby d15_10) rfl ?_
   refine XS.iloadN X3.here hx rfl (hb hby d15_11) rfl ?_
   refine XS.iloadN X3.here hx rfl (hb hby d15_12) rfl ?_
   exact k)
 obtain ⟨cqc6, qc6, qc6'⟩ := f0.cell
 obtain ⟨_, _, ⟨Tc6, Lc6, kc6, nc6⟩, -, Xc6, ⟨Lcc6, hQc6, lc6, yc6, zc6⟩, stc6⟩ := X3.privateBack hx (y := M3) hown (mvT hZ (ww hw 41 rfl)) (mvT hZ (ww hw 42 rfl)) (mvT hZ (own_sel (y := M3) (ww hw 1 rfl) (ww hw 43 rfl) (ww hw 42 rfl) (by decide))) (Cond.privateMethod_at (mvP hZ (ww hw 43 rfl) (args := #[]))) (mvT hZ (ww hw 44 rfl)) (by decide) (backOf (W := 0) (rm6_4 l Z a0 hw [] i0 i1 i2 b0 h0 n0 O0  g_b0 f0 f3) hZ (ww hw 44 rfl) (ww hw 2 rfl) (by decide) (by decide)) (g := (mkF m 13 Ls1 [(.int i2), (.int i1), (.int i0), (.ref b0)])) rfl (by rw [hml]; rfl) (Steps.refl _) (a := b0) (by rw [e3]; exact qc6) qc6' (argsL := [(.int i0), (.int i1), (.int i2)]) (rest := []) (lenOf pd2 rfl) rfl (by show 2 * 0 + _ ≤ _; exact Nat.le_of_eq rfl) (hb hby d15_13) (fun _ _ => ⟨rfl, e3, (by decide : 0 + 0 ≤ _), (by decide : 0 + 0 ≤ _)⟩)
 dsimp only [Pt.U, Pt.locs, Pt.cells, Pt.slots] at Xc6 lc6 yc6 zc6 stc6 hQc6
 subst lc6 yc6 zc6
 obtain ⟨Nqc6, ec6, hAc6⟩ := hQc6
 have Nc6 := Fr.app N0 Nqc6
 obtain rfl := hAc6
 have p7 : ∀ t, St p e below Tc6 (mkF m 16 Ls1 [(.int (0 : Int32))]) t → S0 t := fun t k => p5 t (stc6.trans k)
 let Ls8 : Array Slot := #[.val (.ref b0), .val (.int i0), .val (.int i1), .val (.int i2), .val (.int (0 : Int32))]
 have p9 : ∀ t, St p e below Tc6 (mkF m 19 Ls8 [(.ref b0)]) t → S0 t := fun t k => p7 t (by
   refine XS.istore Xc6.here hx rfl (hb hby d15_16) rfl (l' := Ls8) rfl ?_
   refine XS.aloadN Xc6.here hx rfl (hb hby d15_18) rfl rfl ?_
   exact k)
 obtain ⟨T10, X10, e10, st10⟩ := getF Xc6 hx hZ hown (host := "") (Or.inl (ww hw 11 rfl)) Via.refl ec6 f1 (g := (mkF m 19 Ls8 [(.ref b0)])) rfl rfl (hb hby d15_19)
 have p11 : ∀ t, St p e below T10 (mkF m 22 Ls8 [(.ref b1)]) t → S0 t := fun t k => p9 t (st10 t k)
 have p12 : ∀ t, St p e below T10 (mkF m 24 Ls8 [(.int (0 : Int32)), (.ref b1)]) t → S0 t := fun t k => p11 t (by
   refine XS.iload X10.here hx rfl (hb hby d15_22) rfl ?_
   exact k)
 obtain ⟨cl13, Ar13, -, Sz13, -, Hs13, -⟩ := id f4
 have hin13 : ¬ ((0 : Int32) < 0 ∨ cl13.slots.size ≤ (0 : Int32).toNatClampNeg) := inb_of Sz13 ⟨by decide, by decide⟩
 have hat13 : cl13.slots[(0 : Int32).toNatClampNeg]? = some (.ref b3) := Hs13.at hin13 rfl
 have p14 : ∀ t, St p e below T10 (mkF m 26 Ls8 [(.ref b0), (.ref b3)]) t → S0 t := fun t k => p12 t (by
   refine X10.aaload hx (j := (0 : Int32)) (v := (.ref b3)) (by rw [e10]; exact Ar13.1) (State.isArrayOf_alike hZ.alike Ar13.2.1) rfl Ar13.2.2 hin13 hat13 (g := (mkF m 24 Ls8 [(.int (0 : Int32)), (.ref b1)])) rfl rfl (hb hby d15_24) _ ?_
   refine XS.aloadN X10.here hx rfl (hb hby d15_25) rfl rfl ?_
   exact k)
 obtain ⟨T15, X15, e15, st15⟩ := getF X10 hx hZ hown (host := "") (Or.inl (ww hw 14 rfl)) Via.refl e10 f2 (g := (mkF m 26 Ls8 [(.ref b0), (.ref b3)])) rfl rfl (hb hby d15_26)
 have p16 : ∀ t, St p e below T15 (mkF m 29 Ls8 [(.ref b2), (.ref b3)]) t → S0 t := fun t k => p14 t (st15 t k)
 have p17 : ∀ t, St p e below T15 (mkF m 31 Ls8 [(.int (0 : Int32)), (.ref b2), (.ref b3)]) t → S0 t := fun t k => p16 t (by
   refine XS.iload X15.here hx rfl (hb hby d15_29) rfl ?_
   exact k)
 obtain ⟨cl18, Ar18, -, Sz18, -, Hs18, -⟩ := id f6
 have hin18 : ¬ ((0 : Int32) < 0 ∨ cl18.slots.size ≤ (0 : Int32).toNatClampNeg) := inb_of Sz18 ⟨by decide, by decide⟩
 have hat18 : cl18.slots[(0 : Int32).toNatClampNeg]? = some (.int (2 : Int32)) := Hs18.at hin18 rfl
 have p19 : ∀ t, St p e below T15 (mkF m 35 Ls8 [(.int i2), (.int i1), (.int i0), (.int (2 : Int32)), (.ref b3)]) t → S0 t := fun t k => p17 t (by
   refine X15.iaload hx (j := (0 : Int32)) (v := (.int (2 : Int32))) (by rw [e15]; exact Ar18.1) (State.isArrayOf_alike hZ.alike Ar18.2.1) Ar18.2.2 hin18 hat18 (g := (mkF m 31 Ls8 [(.int (0 : Int32)), (.ref b2), (.ref b3)])) rfl rfl (hb hby d15_31) _ ?_
   refine XS.iloadN X15.here hx rfl (hb hby d15_32) rfl ?_
   refine XS.iloadN X15.here hx rfl (hb hby d15_33) rfl ?_
   refine XS.iloadN X15.here hx rfl (hb hby d15_34) rfl ?_
   exact k)
 obtain ⟨_, _, ⟨Tc20, Lc20, kc20, nc20⟩, -, Xc20, ⟨Lcc20, hQc20, lc20, yc20, zc20⟩, stc20⟩ := Jvm.LawKit.callS X15 hx (y := M4) hown (mvT hZ (ww hw 45 rfl)) (mvT hZ (ww hw 46 rfl)) (mvT hZ (ww hw 2 rfl)) (mvT hZ (ww hw 47 rfl)) (by decide) (backOf (W := 0) (rm7_18 l Z a0 hw [] i0 i1 i2 i3 i4 i5 i6 i7 i8 i9 i10 i11 i12 i13 i14 b3 k6 h0 n0 O0  g_b3 f8 f9) hZ (ww hw 47 rfl) (ww hw 2 rfl) (by decide) (by decide)) (g := (mkF m 35 Ls8 [(.int i2), (.int i1), (.int i0), (.int (2 : Int32)), (.ref b3)])) rfl (by rw [hml]; rfl) (argsL := [(.ref b3), (.int (2 : Int32)), (.int i0), (.int i1), (.int i2)]) (rest := []) (lenOf pd3 rfl) rfl (by show 2 * 0 + _ ≤ _; exact Nat.le_of_eq rfl) (hb hby d15_35) (fun _ _ => ⟨rfl, e15, (by decide : 0 + 0 ≤ _), (by decide : 0 + 0 ≤ _)⟩)
 dsimp only [Pt.U, Pt.locs, Pt.cells, Pt.slots] at Xc20 lc20 yc20 zc20 stc20 hQc20
 subst lc20 yc20 zc20
 obtain ⟨Nqc20, ec20, hAc20⟩ := hQc20
 have Nc20 := Fr.app Nc6 Nqc20
 rcases hAc20 with ⟨rfl, g21⟩ | ⟨rfl, g22, g23, g24⟩ | ⟨rfl, g25, g26, g27, g28⟩ | ⟨rfl, g29, g30, g31, g32⟩ | ⟨rfl, g33, g34⟩
 ·
  have p35 : ∀ t, St p e below Tc20 (mkF m 38 Ls8 [(.int (-3 : Int32))]) t → S0 t := fun t k => p19 t (stc20 t k)
  have p36 : ∀ t, St p e below Tc20 (mkF m 46 Ls8 [(.int (0 : Int32))]) t → S0 t := fun t k => p35 t (by
    refine XS.ifYes Xc20.here hx rfl (pc0 := 38) (pc' := 45) rfl (hb hby d15_38) rfl ((if0 _ _).trans (tlt (by decide : (-3 : Int32) < (0 : Int32))).1) (by decide) (by decide) ?_
    refine XT.iconstV Xc20.here hx rfl (0 : Int32) (hb hby d15_45) (by decide) ?_
    exact k)
  obtain ⟨fs, hr, hrun, hended, hW, hsame⟩ := Xc20.leave (v := some (.int (0 : Int32))) (fun h => by rw [Bd.returns] at h; cases h)
  refine ⟨_, _, p36 _ ?_, hrun, hended, _, _, rfl, ?_, ⟨_, rfl⟩, hW, hsame.mono (by decide) (by decide)⟩
  · exact retOut Xc20 hx Bd.returns rfl (Or.inl ⟨rfl, by simp, _, rfl⟩) (hb hby d15_46) hr
  · show Q15_17 Z i0 i1 i2 i3 i4 i5 i6 i7 i8 i9 i10 i11 i12 i13 i14 b0 b1 b2 b3 k4 k5 k6 h0 n0 _ Tc20.heap _
    exact ⟨Nc20, ec20, (Or.inl ⟨rfl, g21⟩)⟩
 ·
  have p37 : ∀ t, St p e below Tc20 (mkF m 38 Ls8 [(.int (-2 : Int32))]) t → S0 t := fun t k => p19 t (stc20 t k)
  have p38 : ∀ t, St p e below Tc20 (mkF m 46 Ls8 [(.int (0 : Int32))]) t → S0 t := fun t k => p37 t (by
    refine XS.ifYes Xc20.here hx rfl (pc0 := 38) (pc' := 45) rfl (hb hby d15_38) rfl ((if0 _ _).trans (tlt (by decide : (-2 : Int32) < (0 : Int32))).1) (by decide) (by decide) ?_
    refine XT.iconstV Xc20.here hx rfl (0 : Int32) (hb hby d15_45) (by decide) ?_
    exact k)
  obtain ⟨fs, hr, hrun, hended, hW, hsame⟩ := Xc20.leave (v := some (.int (0 : Int32))) (fun h => by rw [Bd.returns] at h; cases h)
  refine ⟨_, _, p38 _ ?_, hrun, hended, _, _, rfl, ?_, ⟨_, rfl⟩, hW, hsame.mono (by decide) (by decide)⟩
  · exact retOut Xc20 hx Bd.returns rfl (Or.inl ⟨rfl, by simp, _, rfl⟩) (hb hby d15_46) hr
  · show Q15_17 Z i0 i1 i2 i3 i4 i5 i6 i7 i8 i9 i10 i11 i12 i13 i14 b0 b1 b2 b3 k4 k5 k6 h0 n0 _ Tc20.heap _
    exact ⟨Nc20, ec20, (Or.inr (Or.inl ⟨rfl, g22, g23, g24⟩))⟩
 ·
  have p39 : ∀ t, St p e below Tc20 (mkF m 38 Ls8 [(.int (-1 : Int32))]) t → S0 t := fun t k => p19 t (stc20 t k)
  have p40 : ∀ t, St p e below Tc20 (mkF m 46 Ls8 [(.int (0 : Int32))]) t → S0 t := fun t k => p39 t (by
    refine XS.ifYes Xc20.here hx rfl (pc0 := 38) (pc' := 45) rfl (hb hby d15_38) rfl ((if0 _ _).trans (tlt (by decide : (-1 : Int32) < (0 : Int32))).1) (by decide) (by decide) ?_
    refine XT.iconstV Xc20.here hx rfl (0 : Int32) (hb hby d15_45) (by decide) ?_
    exact k)
  obtain ⟨fs, hr, hrun, hended, hW, hsame⟩ := Xc20.leave (v := some (.int (0 : Int32))) (fun h => by rw [Bd.returns] at h; cases h)
  refine ⟨_, _, p40 _ ?_, hrun, hended, _, _, rfl, ?_, ⟨_, rfl⟩, hW, hsame.mono (by decide) (by decide)⟩
  · exact retOut Xc20 hx Bd.returns rfl (Or.inl ⟨rfl, by simp, _, rfl⟩) (hb hby d15_46) hr
  · show Q15_17 Z i0 i1 i2 i3 i4 i5 i6 i7 i8 i9 i10 i11 i12 i13 i14 b0 b1 b2 b3 k4 k5 k6 h0 n0 _ Tc20.heap _
    exact ⟨Nc20, ec20, (Or.inr (Or.inr (Or.inl ⟨rfl, g25, g26, g27, g28⟩)))⟩
 ·
  have p41 : ∀ t, St p e below Tc20 (mkF m 38 Ls8 [(.int (0 : Int32))]) t → S0 t := fun t k => p19 t (stc20 t k)
  have p42 : ∀ t, St p e below Tc20 (mkF m 46 Ls8 [(.int (1 : Int32))]) t → S0 t := fun t k => p41 t (by
    refine XS.ifNo Xc20.here hx rfl (hb hby d15_38) rfl ((if0 _ _).trans (flt (by decide : ¬ ((0 : Int32) < (0 : Int32)))).1) ?_
    refine XT.iconstV Xc20.here hx rfl (1 : Int32) (hb hby d15_41) (by decide) ?_
    refine XS.goto Xc20.here hx rfl (pc0 := 42) (pc' := 46) rfl (hb hby d15_42) (by decide) (by decide) ?_
    exact k)
  obtain ⟨fs, hr, hrun, hended, hW, hsame⟩ := Xc20.leave (v := some (.int (1 : Int32))) (fun h => by rw [Bd.returns] at h; cases h)
  refine ⟨_, _, p42 _ ?_, hrun, hended, _, _, rfl, ?_, ⟨_, rfl⟩, hW, hsame.mono (by decide) (by decide)⟩
  · exact retOut Xc20 hx Bd.returns rfl (Or.inl ⟨rfl, by simp, _, rfl⟩) (hb hby d15_46) hr
  · show Q15_17 Z i0 i1 i2 i3 i4 i5 i6 i7 i8 i9 i10 i11 i12 i13 i14 b0 b1 b2 b3 k4 k5 k6 h0 n0 _ Tc20.heap _
    exact ⟨Nc20, ec20, (Or.inr (Or.inr (Or.inr (Or.inl ⟨rfl, g29, g30, g31, g32⟩))))⟩
 ·
  have p43 : ∀ t, St p e below Tc20 (mkF m 38 Ls8 [(.int (1 : Int32))]) t → S0 t := fun t k => p19 t (stc20 t k)
  have p44 : ∀ t, St p e below Tc20 (mkF m 46 Ls8 [(.int (1 : Int32))]) t → S0 t := fun t k => p43 t (by
    refine XS.ifNo Xc20.here hx rfl (hb hby d15_38) rfl ((if0 _ _).trans (flt (by decide : ¬ ((1 : Int32) < (0 : Int32)))).1) ?_
    refine XT.iconstV Xc20.here hx rfl (1 : Int32) (hb hby d15_41) (by decide) ?_
    refine XS.goto Xc20.here hx rfl (pc0 := 42) (pc' := 46) rfl (hb hby d15_42) (by decide) (by decide) ?_
    exact k)
  obtain ⟨fs, hr, hrun, hended, hW, hsame⟩ := Xc20.leave (v := some (.int (1 : Int32))) (fun h => by rw [Bd.returns] at h; cases h)
  refine ⟨_, _, p44 _ ?_, hrun, hended, _, _, rfl, ?_, ⟨_, rfl⟩, hW, hsame.mono (by decide) (by decide)⟩
  · exact retOut Xc20 hx Bd.returns rfl (Or.inl ⟨rfl, by simp, _, rfl⟩) (hb hby d15_46) hr
  · show Q15_17 Z i0 i1 i2 i3 i4 i5 i6 i7 i8 i9 i10 i11 i12 i13 i14 b0 b1 b2 b3 k4 k5 k6 h0 n0 _ Tc20.heap _
    exact ⟨Nc20, ec20, (Or.inr (Or.inr (Or.inr (Or.inr (⟨rfl, g33, g34⟩)))))⟩
theorem ar14 {x0 : Int32} {x1 : Int32} {x2 : Int32} {x3 : Int32} {x4 : Int32} (h0 : ¬ ((own_cmp3 x0 x1 x2 x3 x4 x0) < (0 : Int32))) (h1 : (0 : Int32) < (own_cmp3 x3 x4 x0 x0 x1 x2)) : False := by
  have q1_ := nltI h0
  have q2_ := ltI h1
  have l3_ := rng32 x0
  have l4_ := rng32 x1
  have l5_ := rng32 x2
  have l6_ := rng32 x3
  have l7_ := rng32 x4
  have l8_ := own_cmp3_r x0 x1 x2 x3 x4 x0
  have l9_ := lI0
  have l10_ := own_cmp3_r x3 x4 x0 x0 x1 x2
  have l10a_ := own_cmp3_a x3 x4 x0 x0 x1 x2
  omega
theorem ar15 {x0 : Int32} {x1 : Int32} {x2 : Int32} {x3 : Int32} {x4 : Int32} (h0 : (0 : Int32) < (own_cmp3 x0 x1 x2 x3 x4 x0)) (h1 : ¬ ((own_cmp3 x3 x4 x0 x0 x1 x2) < (0 : Int32))) : False := by
  have q1_ := ltI h0
  have q2_ := nltI h1
  have l3_ := lI0
  have l4_ := rng32 x0
  have l5_ := rng32 x1
  have l6_ := rng32 x2
  have l7_ := rng32 x3
  have l8_ := rng32 x4
  have l9_ := own_cmp3_r x0 x1 x2 x3 x4 x0
  have l10_ := own_cmp3_r x3 x4 x0 x0 x1 x2
  have l10a_ := own_cmp3_a x3 x4 x0 x0 x1 x2
  omega
theorem ar16 {x0 : Int32} {x1 : Int32} {x2 : Int32} {x3 : Int32} {x4 : Int32} (h0 : ¬ ((own_cmp3 x0 x1 x2 x3 x4 x0) < (0 : Int32))) (h1 : (own_cmp3 x0 x1 x2 x3 x4 x0) < (0 : Int32)) : False := by
  have q1_ := nltI h0
  have q2_ := ltI h1
  have l3_ := rng32 x0
  have l4_ := rng32 x1
  have l5_ := rng32 x2
  have l6_ := rng32 x3
  have l7_ := rng32 x4
  have l8_ := own_cmp3_r x0 x1 x2 x3 x4 x0
  have l9_ := lI0
  omega
theorem ar17 {x0 : Int32} {x1 : Int32} {x2 : Int32} {x3 : Int32} {x4 : Int32} (h0 : (0 : Int32) < (own_cmp3 x0 x1 x2 x3 x4 x0)) (h1 : ¬ ((0 : Int32) < (own_cmp3 x0 x1 x2 x3 x4 x0))) : False := by
  have q1_ := ltI h0
  have q2_ := nltI h1
  have l3_ := lI0
  have l4_ := rng32 x0
  have l5_ := rng32 x1
  have l6_ := rng32 x2
  have l7_ := rng32 x3
  have l8_ := rng32 x4
  have l9_ := own_cmp3_r x0 x1 x2 x3 x4 x0
  omega
theorem ar18 {x0 : Int32} {x1 : Int32} {x2 : Int32} {x3 : Int32} {x4 : Int32} (h0 : ¬ ((0 : Int32) < (own_cmp3 x0 x1 x2 x3 x4 x0))) (h1 : (own_cmp3 x3 x4 x0 x0 x1 x2) < (0 : Int32)) : False := by
  have q1_ := nltI h0
  have q2_ := ltI h1
  have l3_ := lI0
  have l4_ := rng32 x0
  have l5_ := rng32 x1
  have l6_ := rng32 x2
  have l7_ := rng32 x3
  have l8_ := rng32 x4
  have l9_ := own_cmp3_r x0 x1 x2 x3 x4 x0
  have l10_ := own_cmp3_r x3 x4 x0 x0 x1 x2
  have l10a_ := own_cmp3_a x3 x4 x0 x0 x1 x2
  omega
theorem ar19 {x0 : Int32} {x1 : Int32} {x2 : Int32} {x3 : Int32} {x4 : Int32} (h0 : ¬ ((own_isz (own_cmp3 x0 x1 x2 x3 x4 x0)) = (0 : Int32))) (h1 : ¬ ((1 : Int32) = (own_isz (own_cmp3 x0 x1 x2 x3 x4 x0)))) : False := by
  have q1_ := neI h0
  have q2_ := neI h1
  have l3_ := rng32 x0
  have l4_ := rng32 x1
  have l5_ := rng32 x2
  have l6_ := rng32 x3
  have l7_ := rng32 x4
  have l8_ := own_cmp3_r x0 x1 x2 x3 x4 x0
  have l9_ := own_c_isz (own_cmp3 x0 x1 x2 x3 x4 x0)
  have l10_ := lI0
  have l11_ := lI1
  omega
theorem ar20 {x0 : Int32} {x1 : Int32} {x2 : Int32} {x3 : Int32} {x4 : Int32} (h0 : ¬ ((0 : Int32) < (own_cmp3 x0 x1 x2 x3 x4 x0))) (h1 : (0 : Int32) < (own_cmp3 x0 x1 x2 x3 x4 x0)) : False := by
  have q1_ := nltI h0
  have q2_ := ltI h1
  have l3_ := lI0
  have l4_ := rng32 x0
  have l5_ := rng32 x1
  have l6_ := rng32 x2
  have l7_ := rng32 x3
  have l8_ := rng32 x4
  have l9_ := own_cmp3_r x0 x1 x2 x3 x4 x0
  omega
theorem ar21 {x0 : Int32} (h0 : ¬ (x0 < (0 : Int32))) (h1 : ¬ ((1 : Int32) < x0)) (h2 : ¬ (x0 = (0 : Int32))) (h3 : ¬ (x0 = (1 : Int32))) : False := by
  have q1_ := nltI h0
  have q2_ := nltI h1
  have q3_ := neI h2
  have q4_ := neI h3
  have l5_ := rng32 x0
  have l6_ := lI0
  have l7_ := lI1
  omega
def Q0 (Z : State) (i0 : Int32) (i1 : Int32) (i2 : Int32) (i3 : Int32) (i4 : Int32) (i5 : Int32) (h0 : Heap) (n0 : Nat) (v : Option Value) (h : Heap) (L : List Loc) : Prop := v = some (.int 1) ∧ Fr n0 L
set_option maxRecDepth 65536 in
set_option maxHeartbeats 40000000 in
theorem rm0 (l : Launch) (Z : State) (a0 : Array Value) (hw : ∀ d ∈ tables_1, d.before a0 Z = true) (ws : List Jvm.Cond) (i0 : Int32) (i1 : Int32) (i2 : Int32) (i3 : Int32) (i4 : Int32) (i5 : Int32) (h0 : Heap) (n0 : Nat) (O0 : Old Z n0 h0)   :
    MetFree l x (head1 (Jvm.Cond.code x code maxLocals ret :: ws) room_1) (fun a U => a = #[(.int i0), (.int i1), (.int i2), (.int i3), (.int i4), (.int i5)] ∧ Z.Warmed39 U.vm ∧ U.heap = h0) (fun _ _ _ _ _ => True) (fun _ U o U' => ∃ v L, o = .returned v ∧ Q0 Z i0 i1 i2 i3 i4 i5 h0 n0 v U'.heap L ∧ FrameEnd U o U' L 40 256) := by
 refine MetFree.of_bodySF (plainFor_of_name pn0) hisR ?_
 intro p e s m args below meth c s₁ Bd hml0 hP hK
 obtain ⟨rfl, hZ, hh⟩ := hP
 have hx := Bd.exec
 have hby := Bd.bytes
 have hml : c.maxLocals = 15 := hml0
 have hown : s.vm.findClass "com/example/quadrille/quadrille/store/SortedTriplesClearPinLaw" = some m.cls := findClass_of_methodNamed Bd.named
 have hnm := (name_of_methodNamed Bd.named Bd.method).1
 have X0 : Stand p l e room_1 s m #[(.int i0), (.int i1), (.int i2), (.int i3), (.int i4), (.int i5)] below meth c s₁ [] 0 0 := Stand.of_body Bd
 have e0 : s₁.heap = h0 := by rw [← hh, Bd.state]; rfl
 have N0 := Fr.nil n0
 let S0 : State → Prop := fun t => Steps p.tables e below (s₁.setTop (entryFrame m #[(.int i0), (.int i1), (.int i2), (.int i3), (.int i4), (.int i5)] maxLocals)) t
 let Ls1 : Array Slot := #[.val (.int i0), .val (.int i1), .val (.int i2), .val (.int i3), .val (.int i4), .val (.int i5), .unset, .unset, .unset, .unset, .unset, .unset, .unset, .unset, .unset]
 have p0 : ∀ t, St p e below s₁ (mkF m 0 Ls1 []) t → S0 t := fun t k => castTop (ef0 m i0 i1 i2 i3 i4 i5) k
 obtain ⟨w2, Tj3, Lj3, Xj3, ej3, Nj3, g4, g5, pj3⟩ : ∃ (w2 : Int32) (Tj3 : State) (Lj3 : List Loc), Stand p l e room_1 s m #[(.int i0), (.int i1), (.int i2), (.int i3), (.int i4), (.int i5)] below meth c Tj3 Lj3 0 0 ∧ Tj3.heap = h0 ∧ Fr n0 Lj3 ∧ ¬ (w2 < (0 : Int32)) ∧ ¬ ((1 : Int32) < w2) ∧ ∀ t, St p e below Tj3 (mkF m 14 #[.val (.int i0), .val (.int i1), .val (.int i2), .val (.int i3), .val (.int i4), .val (.int i5), .val (.int w2), .unset, .unset, .unset, .unset, .unset, .unset, .unset, .unset] []) t → S0 t := by
  have p6 : ∀ t, St p e below s₁ (mkF m 4 Ls1 [(.int (i5 &&& (1 : Int32)))]) t → S0 t := fun t k => p0 t (by
    refine XS.iload X0.here hx rfl (hb hby at_0) rfl ?_
    refine XT.iconstV X0.here hx rfl (1 : Int32) (hb hby at_2) (by decide) ?_
    refine XS.iand X0.here hx rfl (hb hby at_3) rfl ?_
    exact k)
  by_cases g7 : (i5 &&& (1 : Int32)) = (0 : Int32)
  ·
   let Ls8 : Array Slot := #[.val (.int i0), .val (.int i1), .val (.int i2), .val (.int i3), .val (.int i4), .val (.int i5), .val (.int (0 : Int32)), .unset, .unset, .unset, .unset, .unset, .unset, .unset, .unset]
   have p9 : ∀ t, St p e below s₁ (mkF m 14 Ls8 []) t → S0 t := fun t k => p6 t (by
     refine XS.ifYes X0.here hx rfl (pc0 := 4) (pc' := 11) rfl (hb hby at_4) rfl ((if0 _ _).trans (teq g7).1) (by decide) (by decide) ?_
     refine XT.iconstV X0.here hx rfl (0 : Int32) (hb hby at_11) (by decide) ?_
     refine XS.istore X0.here hx rfl (hb hby at_12) rfl (l' := Ls8) rfl ?_
     exact k)
   exact ⟨(0 : Int32), _, _, X0, e0, N0, (by decide : ¬ ((0 : Int32) < (0 : Int32))), (by decide : ¬ ((1 : Int32) < (0 : Int32))), p9⟩
  ·
   let Ls10 : Array Slot := #[.val (.int i0), .val (.int i1), .val (.int i2), .val (.int i3), .val (.int i4), .val (.int i5), .val (.int (1 : Int32)), .unset, .unset, .unset, .unset, .unset, .unset, .unset, .unset]
   have p11 : ∀ t, St p e below s₁ (mkF m 14 Ls10 []) t → S0 t := fun t k => p6 t (by
     refine XS.ifNo X0.here hx rfl (hb hby at_4) rfl ((if0 _ _).trans (feq g7).1) ?_
     refine XT.iconstV X0.here hx rfl (1 : Int32) (hb hby at_7) (by decide) ?_
     refine XS.goto X0.here hx rfl (pc0 := 8) (pc' := 12) rfl (hb hby at_8) (by decide) (by decide) ?_
     refine XS.istore X0.here hx rfl (hb hby at_12) rfl (l' := Ls10) rfl ?_
     exact k)
   exact ⟨(1 : Int32), _, _, X0, e0, N0, (by decide : ¬ ((1 : Int32) < (0 : Int32))), (by decide : ¬ ((1 : Int32) < (1 : Int32))), p11⟩
 obtain ⟨w12, Tj13, Lj13, Xj13, ej13, Nj13, g14, g15, pj13⟩ : ∃ (w12 : Int32) (Tj13 : State) (Lj13 : List Loc), Stand p l e room_1 s m #[(.int i0), (.int i1), (.int i2), (.int i3), (.int i4), (.int i5)] below meth c Tj13 Lj13 0 0 ∧ Tj13.heap = h0 ∧ Fr n0 Lj13 ∧ ¬ (w12 < (0 : Int32)) ∧ ¬ ((1 : Int32) < w12) ∧ ∀ t, St p e below Tj13 (mkF m 28 #[.val (.int i0), .val (.int i1), .val (.int i2), .val (.int i3), .val (.int i4), .val (.int i5), .val (.int w2), .val (.int w12), .unset, .unset, .unset, .unset, .unset, .unset, .unset] []) t → S0 t := by
  let Ls16 : Array Slot := #[.val (.int i0), .val (.int i1), .val (.int i2), .val (.int i3), .val (.int i4), .val (.int i5), .val (.int w2), .unset, .unset, .unset, .unset, .unset, .unset, .unset, .unset]
  have p17 : ∀ t, St p e below Tj3 (mkF m 18 Ls16 [(.int (i5 &&& (2 : Int32)))]) t → S0 t := fun t k => pj3 t (by
    refine XS.iload Xj3.here hx rfl (hb hby at_14) rfl ?_
    refine XT.iconstV Xj3.here hx rfl (2 : Int32) (hb hby at_16) (by decide) ?_
    refine XS.iand Xj3.here hx rfl (hb hby at_17) rfl ?_
    exact k)
  by_cases g18 : (i5 &&& (2 : Int32)) = (0 : Int32)
  ·
   let Ls19 : Array Slot := #[.val (.int i0), .val (.int i1), .val (.int i2), .val (.int i3), .val (.int i4), .val (.int i5), .val (.int w2), .val (.int (0 : Int32)), .unset, .unset, .unset, .unset, .unset, .unset, .unset]
   have p20 : ∀ t, St p e below Tj3 (mkF m 28 Ls19 []) t → S0 t := fun t k => p17 t (by
     refine XS.ifYes Xj3.here hx rfl (pc0 := 18) (pc' := 25) rfl (hb hby at_18) rfl ((if0 _ _).trans (teq g18).1) (by decide) (by decide) ?_
     refine XT.iconstV Xj3.here hx rfl (0 : Int32) (hb hby at_25) (by decide) ?_
     refine XS.istore Xj3.here hx rfl (hb hby at_26) rfl (l' := Ls19) rfl ?_
     exact k)
   exact ⟨(0 : Int32), _, _, Xj3, ej3, Nj3, (by decide : ¬ ((0 : Int32) < (0 : Int32))), (by decide : ¬ ((1 : Int32) < (0 : Int32))), p20⟩
  ·
   let Ls21 : Array Slot := #[.val (.int i0), .val (.int i1), .val (.int i2), .val (.int i3), .val (.int i4), .val (.int i5), .val (.int w2), .val (.int (1 : Int32)), .unset, .unset, .unset, .unset, .unset, .unset, .unset]
   have p22 : ∀ t, St p e below Tj3 (mkF m 28 Ls21 []) t → S0 t := fun t k => p17 t (by
     refine XS.ifNo Xj3.here hx rfl (hb hby at_18) rfl ((if0 _ _).trans (feq g18).1) ?_
     refine XT.iconstV Xj3.here hx rfl (1 : Int32) (hb hby at_21) (by decide) ?_
     refine XS.goto Xj3.here hx rfl (pc0 := 22) (pc' := 26) rfl (hb hby at_22) (by decide) (by decide) ?_
     refine XS.istore Xj3.here hx rfl (hb hby at_26) rfl (l' := Ls21) rfl ?_
     exact k)
   exact ⟨(1 : Int32), _, _, Xj3, ej3, Nj3, (by decide : ¬ ((1 : Int32) < (0 : Int32))), (by decide : ¬ ((1 : Int32) < (1 : Int32))), p22⟩
 obtain ⟨w23, Tj24, Lj24, Xj24, ej24, Nj24, g25, pj24⟩ : ∃ (w23 : Int32) (Tj24 : State) (Lj24 : List Loc), Stand p l e room_1 s m #[(.int i0), (.int i1), (.int i2), (.int i3), (.int i4), (.int i5)] below meth c Tj24 Lj24 0 0 ∧ Tj24.heap = h0 ∧ Fr n0 Lj24 ∧ w23 = (own_isz (own_cmp3 i0 i1 i2 i3 i4 i0)) ∧ ∀ t, St p e below Tj24 (mkF m 49 #[.val (.int i0), .val (.int i1), .val (.int i2), .val (.int i3), .val (.int i4), .val (.int i5), .val (.int w2), .val (.int w12), .unset, .unset, .unset, .unset, .unset, .unset, .unset] [(.int w23)]) t → S0 t := by
  let Ls26 : Array Slot := #[.val (.int i0), .val (.int i1), .val (.int i2), .val (.int i3), .val (.int i4), .val (.int i5), .val (.int w2), .val (.int w12), .unset, .unset, .unset, .unset, .unset, .unset, .unset]
  have p27 : ∀ t, St p e below Tj13 (mkF m 30 Ls26 [(.int i3), (.int i0)]) t → S0 t := fun t k => pj13 t (by
    refine XS.iloadN Xj13.here hx rfl (hb hby at_28) rfl ?_
    refine XS.iloadN Xj13.here hx rfl (hb hby at_29) rfl ?_
    exact k)
  by_cases g28 : i0 = i3
  ·
   have p29 : ∀ t, St p e below Tj13 (mkF m 36 Ls26 [(.int i4), (.int i1)]) t → S0 t := fun t k => p27 t (by
     refine XS.icmpNo Xj13.here hx rfl (hb hby at_30) rfl (teq g28).2 ?_
     refine XS.iloadN Xj13.here hx rfl (hb hby at_33) rfl ?_
     refine XS.iload Xj13.here hx rfl (hb hby at_34) rfl ?_
     exact k)
   by_cases g30 : i1 = i4
   ·
    have p31 : ∀ t, St p e below Tj13 (mkF m 41 Ls26 [(.int i0), (.int i2)]) t → S0 t := fun t k => p29 t (by
      refine XS.icmpNo Xj13.here hx rfl (hb hby at_36) rfl (teq g30).2 ?_
      refine XS.iloadN Xj13.here hx rfl (hb hby at_39) rfl ?_
      refine XS.iloadN Xj13.here hx rfl (hb hby at_40) rfl ?_
      exact k)
    by_cases g32 : i2 = i0
    ·
     have p33 : ∀ t, St p e below Tj13 (mkF m 49 Ls26 [(.int (1 : Int32))]) t → S0 t := fun t k => p31 t (by
       refine XS.icmpNo Xj13.here hx rfl (hb hby at_41) rfl (teq g32).2 ?_
       refine XT.iconstV Xj13.here hx rfl (1 : Int32) (hb hby at_44) (by decide) ?_
       refine XS.goto Xj13.here hx rfl (pc0 := 45) (pc' := 49) rfl (hb hby at_45) (by decide) (by decide) ?_
       exact k)
     have q34 : (1 : Int32) = (own_isz (own_cmp3 i0 i1 i2 i3 i4 i0)) := Decidable.byContradiction fun r => ar0 g28 g30 g32 r
     exact ⟨(1 : Int32), _, _, Xj13, ej13, Nj13, q34, p33⟩
    ·
     have p35 : ∀ t, St p e below Tj13 (mkF m 49 Ls26 [(.int (0 : Int32))]) t → S0 t := fun t k => p31 t (by
       refine XS.icmpYes Xj13.here hx rfl (pc0 := 41) (pc' := 48) rfl (hb hby at_41) rfl (feq g32).2 (by decide) (by decide) ?_
       refine XT.iconstV Xj13.here hx rfl (0 : Int32) (hb hby at_48) (by decide) ?_
       exact k)
     have q36 : (0 : Int32) = (own_isz (own_cmp3 i0 i1 i2 i3 i4 i0)) := Decidable.byContradiction fun r => ar1 g32 r
     exact ⟨(0 : Int32), _, _, Xj13, ej13, Nj13, q36, p35⟩
   ·
    have p37 : ∀ t, St p e below Tj13 (mkF m 49 Ls26 [(.int (0 : Int32))]) t → S0 t := fun t k => p29 t (by
      refine XS.icmpYes Xj13.here hx rfl (pc0 := 36) (pc' := 48) rfl (hb hby at_36) rfl (feq g30).2 (by decide) (by decide) ?_
      refine XT.iconstV Xj13.here hx rfl (0 : Int32) (hb hby at_48) (by decide) ?_
      exact k)
    have q38 : (0 : Int32) = (own_isz (own_cmp3 i0 i1 i2 i3 i4 i0)) := Decidable.byContradiction fun r => ar2 g30 r
    exact ⟨(0 : Int32), _, _, Xj13, ej13, Nj13, q38, p37⟩
  ·
   have p39 : ∀ t, St p e below Tj13 (mkF m 49 Ls26 [(.int (0 : Int32))]) t → S0 t := fun t k => p27 t (by
     refine XS.icmpYes Xj13.here hx rfl (pc0 := 30) (pc' := 48) rfl (hb hby at_30) rfl (feq g28).2 (by decide) (by decide) ?_
     refine XT.iconstV Xj13.here hx rfl (0 : Int32) (hb hby at_48) (by decide) ?_
     exact k)
   have q40 : (0 : Int32) = (own_isz (own_cmp3 i0 i1 i2 i3 i4 i0)) := Decidable.byContradiction fun r => ar3 g28 r
   exact ⟨(0 : Int32), _, _, Xj13, ej13, Nj13, q40, p39⟩
 let Ls42 : Array Slot := #[.val (.int i0), .val (.int i1), .val (.int i2), .val (.int i3), .val (.int i4), .val (.int i5), .val (.int w2), .val (.int w12), .unset, .unset, .unset, .unset, .unset, .unset, .unset]
 have p41 : ∀ t, St p e below Tj24 (mkF m 49 Ls42 [(.int (own_isz (own_cmp3 i0 i1 i2 i3 i4 i0)))]) t → S0 t := fun t k => pj24 t (by show St p e below Tj24 (mkF m 49 #[.val (.int i0), .val (.int i1), .val (.int i2), .val (.int i3), .val (.int i4), .val (.int i5), .val (.int w2), .val (.int w12), .unset, .unset, .unset, .unset, .unset, .unset, .unset] [(.int w23)]) t; rw [g25]; exact k)
 let Ls43 : Array Slot := #[.val (.int i0), .val (.int i1), .val (.int i2), .val (.int i3), .val (.int i4), .val (.int i5), .val (.int w2), .val (.int w12), .val (.int (own_isz (own_cmp3 i0 i1 i2 i3 i4 i0))), .unset, .unset, .unset, .unset, .unset, .unset]
 have p44 : ∀ t, St p e below Tj24 (mkF m 51 Ls43 []) t → S0 t := fun t k => p41 t (by
   refine XS.istore Xj24.here hx rfl (hb hby at_49) rfl (l' := Ls43) rfl ?_
   exact k)
 obtain ⟨T45, h45, X45, e45, E45, A45, D45, -, st45⟩ := newO Xj24 hx hZ hown (ww hw 0 rfl) (ww hw 1 rfl) (ww hw 2 rfl) ej24 (g := (mkF m 51 Ls43 [])) rfl (hb hby at_51) (by decide) (by decide)
 obtain ⟨o45, gq45⟩ : ∃ z, z = (h0).size := ⟨_, rfl⟩
 rw [← gq45] at A45 D45 st45
 have gb_o45 : n0 ≤ o45 := Nat.le_trans (own_old_le O0) (Nat.le_of_eq gq45.symm)
 have sz_o45 : h0.size ≤ o45 := Nat.le_trans ((Keep.refl h0 [])).1 (Nat.le_of_eq gq45.symm)
 have O46 := O0.ext E45
 have K47 := (Keep.refl h0 []).ext E45
 have E_48 : Exa Z h45 o45 "com/example/quadrille/quadrille/store/SortedTriples" := A45
 have F_49 : Fld Z h45 o45 "com/example/quadrille/quadrille/store/SortedTriples" "blocks" "[[I" .null := D45 (Or.inl (ww hw 12 rfl)) (ty := (.array (.array .int))) (by decide)
 have F_50 : Fld Z h45 o45 "com/example/quadrille/quadrille/store/SortedTriples" "counts" "[I" .null := D45 (Or.inl (ww hw 15 rfl)) (ty := (.array .int)) (by decide)
 have F_51 : Fld Z h45 o45 "com/example/quadrille/quadrille/store/SortedTriples" "owned" "[Z" .null := D45 (Or.inl (ww hw 18 rfl)) (ty := (.array .boolean)) (by decide)
 have F_52 : Fld Z h45 o45 "com/example/quadrille/quadrille/store/SortedTriples" "shared" "Z" (.int (0 : Int32)) := D45 (Or.inl (ww hw 29 rfl)) (ty := .boolean) (by decide)
 have F_53 : Fld Z h45 o45 "com/example/quadrille/quadrille/store/SortedTriples" "blockCount" "I" (.int (0 : Int32)) := D45 (Or.inl (ww hw 31 rfl)) (ty := .int) (by decide)
 have F_54 : Fld Z h45 o45 "com/example/quadrille/quadrille/store/SortedTriples" "size" "J" (.long (0 : Int64)) := D45 (Or.inl (ww hw 53 rfl)) (ty := .long) (by decide)
 have p55 : ∀ t, St p e below T45 (mkF m 54 Ls43 [(.ref o45)]) t → S0 t := fun t k => p44 t (st45 t k)
 have p56 : ∀ t, St p e below T45 (mkF m 55 Ls43 [(.ref o45), (.ref o45)]) t → S0 t := fun t k => p55 t (by
   refine XS.dup X45.here hx rfl (hb hby at_54) rfl rfl ?_
   exact k)
 obtain ⟨_, _, ⟨Tc57, Lc57, kc57, nc57⟩, -, Xc57, ⟨Lcc57, hQc57, lc57, yc57, zc57⟩, stc57⟩ := X45.specialBack hx (y := M0) rfl hown (mvT hZ (ww hw 3 rfl)) (mvT hZ (ww hw 4 rfl)) (mvT hZ (ww hw 5 rfl)) (by decide) (backOf (W := 1) (rm1_0 l Z a0 hw [] o45 h45 n0 O46  gb_o45 E_48 F_49 F_50 F_51 F_52 F_53 F_54) hZ (ww hw 5 rfl) (ww hw 2 rfl) (by decide) (by decide)) (g := (mkF m 55 Ls43 [(.ref o45), (.ref o45)])) rfl (by rw [hml]; rfl) (Steps.refl _) (a := o45) (argsL := []) (rest := [(.ref o45)]) (lenOf pd0 rfl) rfl (by show 2 * 0 + _ ≤ _; exact Nat.le_of_eq rfl) (hb hby at_55) (fun _ _ => ⟨rfl, e45, (by decide : 1 + 3 ≤ _), (by decide : 6 + 12 ≤ _)⟩)
 dsimp only [Pt.U, Pt.locs, Pt.cells, Pt.slots] at Xc57 lc57 yc57 zc57 stc57 hQc57
 subst lc57 yc57 zc57
 obtain ⟨Nqc57, hAc57⟩ := hQc57
 have Nc57 := Fr.app Nj24 Nqc57
 obtain ⟨o5_c57, o34_c57, o66_c57, k5_c57, k34_c57, k66_c57, rfl, Kcc57, gn_o5_c57, zn_o5_c57, gn_o34_c57, zn_o34_c57, gn_o66_c57, zn_o66_c57, nn_o5_c57_o34_c57, nn_o5_c57_o66_c57, nn_o34_c57_o66_c57, f_58, f_59, f_60, f_61, f_62, f_63, f_64, f_65, f_66, f_67, f_68, f_69, f_70, f_71⟩ := hAc57
 have ne_o45_o5_c57 : o45 ≠ o5_c57 := Nat.ne_of_lt (Nat.lt_of_lt_of_le E_48.lt zn_o5_c57)
 have ne_o45_o34_c57 : o45 ≠ o34_c57 := Nat.ne_of_lt (Nat.lt_of_lt_of_le E_48.lt zn_o34_c57)
 have ne_o45_o66_c57 : o45 ≠ o66_c57 := Nat.ne_of_lt (Nat.lt_of_lt_of_le E_48.lt zn_o66_c57)
 have sz_o5_c57 : h0.size ≤ o5_c57 := Nat.le_trans (K47).1 zn_o5_c57
 have sz_o34_c57 : h0.size ≤ o34_c57 := Nat.le_trans (K47).1 zn_o34_c57
 have sz_o66_c57 : h0.size ≤ o66_c57 := Nat.le_trans (K47).1 zn_o66_c57
 have O72 := O46.keep Kcc57 (allS gb_o45 all0)
 have K73 := Keep.trans K47 Kcc57 (allS (Or.inr sz_o45) all0)
 have p74 : ∀ t, St p e below Tc57 (mkF m 58 Ls43 [(.ref o45)]) t → S0 t := fun t k => p56 t (stc57.trans k)
 let Ls75 : Array Slot := #[.val (.int i0), .val (.int i1), .val (.int i2), .val (.int i3), .val (.int i4), .val (.int i5), .val (.int w2), .val (.int w12), .val (.int (own_isz (own_cmp3 i0 i1 i2 i3 i4 i0))), .val (.ref o45), .unset, .unset, .unset, .unset, .unset]
 have p76 : ∀ t, St p e below Tc57 (mkF m 65 Ls75 [(.int i2), (.int i1), (.int i0), (.ref o45)]) t → S0 t := fun t k => p74 t (by
   refine XS.astore Xc57.here hx rfl (hb hby at_58) rfl rfl (l' := Ls75) rfl ?_
   refine XS.aload Xc57.here hx rfl (hb hby at_60) rfl rfl ?_
   refine XS.iloadN Xc57.here hx rfl (hb hby at_62) rfl ?_
   refine XS.iloadN Xc57.here hx rfl (hb hby at_63) rfl ?_
   refine XS.iloadN Xc57.here hx rfl (hb hby at_64) rfl ?_
   exact k)
 obtain ⟨cqc77, kqc77, qc77a, qc77b, qc77c⟩ := isOf hZ rfl f_58
 obtain ⟨_, _, ⟨Tc77, Lc77, kc77, nc77⟩, -, Xc77, ⟨Lcc77, hQc77, lc77, yc77, zc77⟩, stc77⟩ := Xc57.virtualBack hx (y := M6) (z := M6) hown (mvT hZ (ww hw 19 rfl)) (mvT hZ (ww hw 20 rfl)) (notFace_of_selects (args := #[]) (mvT hZ (ww hw 22 rfl))) (mvT hZ (ww hw 22 rfl)) (mvT hZ (ww hw 21 rfl)) (by decide) (backOf (W := 0) (rm3_1 l Z a0 hw [] i0 i1 i2 o45 o5_c57 o34_c57 o66_c57 k5_c57 k34_c57 k66_c57 Tc57.heap n0 O72  gb_o45 gn_o5_c57 gn_o34_c57 gn_o66_c57 ne_o45_o5_c57 ne_o45_o34_c57 ne_o45_o66_c57 nn_o5_c57_o34_c57 nn_o5_c57_o66_c57 nn_o34_c57_o66_c57 f_58 f_59 f_60 f_61 f_62 f_63 f_64 f_65 f_66 f_67 f_68 f_69 f_70 f_71) hZ (ww hw 23 rfl) (ww hw 2 rfl) (by decide) (by decide)) qc77a qc77c (g := (mkF m 65 Ls75 [(.int i2), (.int i1), (.int i0), (.ref o45)])) rfl (by rw [hml]; rfl) (Steps.refl _) (argsL := [(.int i0), (.int i1), (.int i2)]) (rest := []) (lenOf pd5 rfl) rfl (by show 2 * 0 + _ ≤ _; exact Nat.le_of_eq rfl) (hb hby at_65) (fun _ _ => ⟨rfl, rfl, (by decide : 4 + 1 ≤ _), (by decide : 18 + 12 ≤ _)⟩)
 dsimp only [Pt.U, Pt.locs, Pt.cells, Pt.slots] at Xc77 lc77 yc77 zc77 stc77 hQc77
 subst lc77 yc77 zc77
 obtain ⟨Nqc77, hAc77⟩ := hQc77
 have Nc77 := Fr.app Nc57 Nqc77
 obtain ⟨o9_c77, k9_c77, rfl, Kcc77, gn_o9_c77, zn_o9_c77, f_78, f_79, f_80, f_81, f_82, f_83, f_84, f_85, f_86, f_87, f_88, f_89, f_90, f_91, f_92, f_93⟩ := hAc77
 have ne_o45_o9_c77 : o45 ≠ o9_c77 := Nat.ne_of_lt (Nat.lt_of_lt_of_le f_58.lt zn_o9_c77)
 have ne_o5_c57_o9_c77 : o5_c57 ≠ o9_c77 := Nat.ne_of_lt (Nat.lt_of_lt_of_le f_65.lt zn_o9_c77)
 have ne_o34_c57_o9_c77 : o34_c57 ≠ o9_c77 := Nat.ne_of_lt (Nat.lt_of_lt_of_le f_68.lt zn_o9_c77)
 have ne_o66_c57_o9_c77 : o66_c57 ≠ o9_c77 := Nat.ne_of_lt (Nat.lt_of_lt_of_le f_70.lt zn_o9_c77)
 have sz_o9_c77 : h0.size ≤ o9_c77 := Nat.le_trans (K73).1 zn_o9_c77
 have O94 := O72.keep Kcc77 (allS gb_o45 (allS gn_o66_c57 (allS gn_o34_c57 (allS gn_o5_c57 all0))))
 have K95 := Keep.trans K73 Kcc77 (allS (Or.inr sz_o45) (allS (Or.inr sz_o66_c57) (allS (Or.inr sz_o34_c57) (allS (Or.inr sz_o5_c57) all0))))
 have p96 : ∀ t, St p e below Tc77 (mkF m 68 Ls75 [(.int (1 : Int32))]) t → S0 t := fun t k => p76 t (stc77.trans k)
 by_cases g97 : w12 = (0 : Int32)
 ·
  let Ls99 : Array Slot := #[.val (.int i0), .val (.int i1), .val (.int i2), .val (.int i3), .val (.int i4), .val (.int i5), .val (.int w2), .val (.int (0 : Int32)), .val (.int (own_isz (own_cmp3 i0 i1 i2 i3 i4 i0))), .val (.ref o45), .unset, .unset, .unset, .unset, .unset]
  have p98 : ∀ t, St p e below Tc77 (mkF m 68 Ls99 [(.int (1 : Int32))]) t → S0 t := fun t k => p96 t (by show St p e below Tc77 (mkF m 68 #[.val (.int i0), .val (.int i1), .val (.int i2), .val (.int i3), .val (.int i4), .val (.int i5), .val (.int w2), .val (.int w12), .val (.int (own_isz (own_cmp3 i0 i1 i2 i3 i4 i0))), .val (.ref o45), .unset, .unset, .unset, .unset, .unset] [(.int (1 : Int32))]) t; rw [g97]; exact k)
  have p100 : ∀ t, St p e below Tc77 (mkF m 69 Ls99 []) t → S0 t := fun t k => p98 t (by
    refine XS.pop Xc77.here hx rfl (hb hby at_68) rfl rfl ?_
    exact k)
  obtain ⟨w102, w104, w105, w106, w107, w108, w109, w122, Tj101, Lj101, Hj101, Xj101, ej101, Nj101, Oj101, Kj101, V_103, E_110, E_111, F_112, F_113, F_114, F_115, F_116, F_117, V_118, E_119, O_120, V_121, E_123, V_124, E_125, pj101⟩ : ∃ (w102 : Int64) (w104 : Int32) (w105 : Int32) (w106 : Int32) (w107 : Int32) (w108 : Int32) (w109 : Int32) (w122 : Int32) (Tj101 : State) (Lj101 : List Loc) (Hj101 : Heap), Stand p l e room_1 s m #[(.int i0), (.int i1), (.int i2), (.int i3), (.int i4), (.int i5)] below meth c Tj101 Lj101 5 30 ∧ Tj101.heap = Hj101 ∧ Fr n0 Lj101 ∧ Old Z n0 Hj101 ∧ Keep h0 Hj101 [] ∧ Arv Z Hj101 o9_c77 k9_c77 .int (12 : Int32) [(.int w104), (.int w105), (.int w106), (.int w107), (.int w108), (.int w109), (.int (0 : Int32)), (.int (0 : Int32)), (.int (0 : Int32)), (.int (0 : Int32)), (.int (0 : Int32)), (.int (0 : Int32))] (.int (0 : Int32)) ∧ Exa Z Hj101 o9_c77 "[I" ∧ Exa Z Hj101 o45 "com/example/quadrille/quadrille/store/SortedTriples" ∧ Fld Z Hj101 o45 "com/example/quadrille/quadrille/store/SortedTriples" "blocks" "[[I" (.ref o5_c57) ∧ Fld Z Hj101 o45 "com/example/quadrille/quadrille/store/SortedTriples" "counts" "[I" (.ref o34_c57) ∧ Fld Z Hj101 o45 "com/example/quadrille/quadrille/store/SortedTriples" "owned" "[Z" (.ref o66_c57) ∧ Fld Z Hj101 o45 "com/example/quadrille/quadrille/store/SortedTriples" "shared" "Z" (.int (0 : Int32)) ∧ Fld Z Hj101 o45 "com/example/quadrille/quadrille/store/SortedTriples" "blockCount" "I" (.int (1 : Int32)) ∧ Fld Z Hj101 o45 "com/example/quadrille/quadrille/store/SortedTriples" "size" "J" (.long w102) ∧ Arv Z Hj101 o5_c57 k5_c57 (.array .int) (4 : Int32) [(.ref o9_c77), .null, .null, .null] .null ∧ Exa Z Hj101 o5_c57 "[[I" ∧ OvrA Z k5_c57 .int "[I" ∧ Arv Z Hj101 o34_c57 k34_c57 .int (4 : Int32) [(.int w122), (.int (0 : Int32)), (.int (0 : Int32)), (.int (0 : Int32))] (.int (0 : Int32)) ∧ Exa Z Hj101 o34_c57 "[I" ∧ Arv Z Hj101 o66_c57 k66_c57 .boolean (4 : Int32) [(.int (1 : Int32)), (.int (0 : Int32)), (.int (0 : Int32)), (.int (0 : Int32))] (.int (0 : Int32)) ∧ Exa Z Hj101 o66_c57 "[Z" ∧ ∀ t, St p e below Tj101 (mkF m 118 #[.val (.int i0), .val (.int i1), .val (.int i2), .val (.int i3), .val (.int i4), .val (.int i5), .val (.int w2), .val (.int (0 : Int32)), .val (.int (own_isz (own_cmp3 i0 i1 i2 i3 i4 i0))), .val (.ref o45), .val (.long w102), .second, .val .null, .unset, .unset] []) t → S0 t := by
   have p126 : ∀ t, St p e below Tc77 (mkF m 71 Ls99 [(.int w2)]) t → S0 t := fun t k => p100 t (by
     refine XS.iload Xc77.here hx rfl (hb hby at_69) rfl ?_
     exact k)
   by_cases g127 : w2 = (0 : Int32)
   ·
    let Ls128 : Array Slot := #[.val (.int i0), .val (.int i1), .val (.int i2), .val (.int i3), .val (.int i4), .val (.int i5), .val (.int w2), .val (.int (0 : Int32)), .val (.int (own_isz (own_cmp3 i0 i1 i2 i3 i4 i0))), .val (.ref o45), .val (.long (1 : Int64)), .second, .unset, .unset, .unset]
    let Ls129 : Array Slot := #[.val (.int i0), .val (.int i1), .val (.int i2), .val (.int i3), .val (.int i4), .val (.int i5), .val (.int w2), .val (.int (0 : Int32)), .val (.int (own_isz (own_cmp3 i0 i1 i2 i3 i4 i0))), .val (.ref o45), .val (.long (1 : Int64)), .second, .val .null, .unset, .unset]
    have p130 : ∀ t, St p e below Tc77 (mkF m 118 Ls129 []) t → S0 t := fun t k => p126 t (by
      refine XS.ifYes Xc77.here hx rfl (pc0 := 71) (pc' := 84) rfl (hb hby at_71) rfl ((if0 _ _).trans (teq g127).1) (by decide) (by decide) ?_
      refine XS.iload Xc77.here hx rfl (hb hby at_84) rfl ?_
      refine XS.ifYes Xc77.here hx rfl (pc0 := 86) (pc' := 100) rfl (hb hby at_86) rfl ((if0 _ _).trans (teq g127).1) (by decide) (by decide) ?_
      refine XT.lconstV Xc77.here hx rfl (1 : Int64) (hb hby at_100) (by decide) ?_
      refine XS.lstore Xc77.here hx rfl (hb hby at_101) rfl (l' := Ls128) rfl ?_
      show St p e below Tc77 (mkF m 103 Ls128 []) t
      refine XS.aconstNull Xc77.here hx rfl (hb hby at_103) ?_
      refine XS.astore Xc77.here hx rfl (hb hby at_104) rfl rfl (l' := Ls129) rfl ?_
      refine XS.iload Xc77.here hx rfl (hb hby at_106) rfl ?_
      refine XS.ifYes Xc77.here hx rfl (pc0 := 108) (pc' := 118) rfl (hb hby at_108) rfl ((if0 _ _).trans (teq (by decide : (0 : Int32) = (0 : Int32))).1) (by decide) (by decide) ?_
      exact k)
    exact ⟨(1 : Int64), i0, i1, i2, (0 : Int32), (0 : Int32), (0 : Int32), (1 : Int32), Tc77, _, Tc77.heap, Xc77, rfl, Nc77, O94, K95, f_78, f_79, f_80, f_81, f_82, f_83, f_84, f_85, f_86, f_87, f_88, f_89, f_90, f_91, f_92, f_93, p130⟩
   ·
    have p131 : ∀ t, St p e below Tc77 (mkF m 80 Ls99 [(.int i0), (.int i4), (.int i3), (.ref o45)]) t → S0 t := fun t k => p126 t (by
      refine XS.ifNo Xc77.here hx rfl (hb hby at_71) rfl ((if0 _ _).trans (feq g127).1) ?_
      refine XS.aload Xc77.here hx rfl (hb hby at_74) rfl rfl ?_
      refine XS.iloadN Xc77.here hx rfl (hb hby at_76) rfl ?_
      refine XS.iload Xc77.here hx rfl (hb hby at_77) rfl ?_
      refine XS.iloadN Xc77.here hx rfl (hb hby at_79) rfl ?_
      exact k)
    obtain ⟨cqc132, kqc132, qc132a, qc132b, qc132c⟩ := isOf hZ rfl f_80
    obtain ⟨_, _, ⟨Tc132, Lc132, kc132, nc132⟩, -, Xc132, ⟨Lcc132, hQc132, lc132, yc132, zc132⟩, stc132⟩ := Xc77.virtualBack hx (y := M6) (z := M6) hown (mvT hZ (ww hw 19 rfl)) (mvT hZ (ww hw 20 rfl)) (notFace_of_selects (args := #[]) (mvT hZ (ww hw 22 rfl))) (mvT hZ (ww hw 22 rfl)) (mvT hZ (ww hw 21 rfl)) (by decide) (backOf (W := 0) (rm3_7 l Z a0 hw [] i3 i4 i0 i1 i2 o45 o5_c57 o34_c57 o66_c57 o9_c77 k5_c57 k34_c57 k66_c57 k9_c77 Tc77.heap n0 O94  gb_o45 gn_o5_c57 gn_o34_c57 gn_o66_c57 gn_o9_c77 ne_o45_o5_c57 ne_o45_o34_c57 ne_o45_o66_c57 ne_o45_o9_c77 nn_o5_c57_o34_c57 nn_o5_c57_o66_c57 ne_o5_c57_o9_c77 nn_o34_c57_o66_c57 ne_o34_c57_o9_c77 ne_o66_c57_o9_c77 f_80 f_81 f_82 f_83 f_84 f_85 f_86 f_87 f_88 f_89 f_90 f_91 f_92 f_93 f_78 f_79) hZ (ww hw 23 rfl) (ww hw 2 rfl) (by decide) (by decide)) qc132a qc132c (g := (mkF m 80 Ls99 [(.int i0), (.int i4), (.int i3), (.ref o45)])) rfl (by rw [hml]; rfl) (Steps.refl _) (argsL := [(.int i3), (.int i4), (.int i0)]) (rest := []) (lenOf pd5 rfl) rfl (by show 2 * 0 + _ ≤ _; exact Nat.le_of_eq rfl) (hb hby at_80) (fun _ _ => ⟨rfl, rfl, (by decide : 5 + 0 ≤ _), (by decide : 30 + 0 ≤ _)⟩)
    dsimp only [Pt.U, Pt.locs, Pt.cells, Pt.slots] at Xc132 lc132 yc132 zc132 stc132 hQc132
    subst lc132 yc132 zc132
    obtain ⟨Nqc132, hAc132⟩ := hQc132
    have Nc132 := Fr.app Nc77 Nqc132
    rcases hAc132 with ⟨rfl, Kcc132, f_134, f_135, f_136, f_137, f_138, f_139, f_140, f_141, f_142, f_143, f_144, g133⟩ | ⟨rfl, Kcc132, f_147, f_148, f_149, f_150, f_151, f_152, f_153, f_154, f_155, f_156, f_157, g145, g146⟩ | ⟨rfl, Kcc132, f_160, f_161, f_162, f_163, f_164, f_165, f_166, f_167, f_168, f_169, f_170, g158, g159⟩
    ·
     have V_171 := f_87.keep Kcc132 (ninS ne_o5_c57_o9_c77 (ninS nn_o5_c57_o34_c57 (ninS (Ne.symm ne_o45_o5_c57) nin0)))
     have E_172 := f_88.keep Kcc132
     have V_173 := f_92.keep Kcc132 (ninS ne_o66_c57_o9_c77 (ninS (Ne.symm nn_o34_c57_o66_c57) (ninS (Ne.symm ne_o45_o66_c57) nin0)))
     have E_174 := f_93.keep Kcc132
     have O175 := O94.keep Kcc132 (allS gn_o9_c77 (allS gn_o34_c57 (allS gb_o45 all0)))
     have K176 := Keep.trans K95 Kcc132 (allS (Or.inr sz_o9_c77) (allS (Or.inr sz_o34_c57) (allS (Or.inr sz_o45) all0)))
     have p177 : ∀ t, St p e below Tc132 (mkF m 83 Ls99 [(.int (1 : Int32))]) t → S0 t := fun t k => p131 t (stc132.trans k)
     have p178 : ∀ t, St p e below Tc132 (mkF m 91 Ls99 [(.int (own_isz (own_cmp3 i0 i1 i2 i3 i4 i0)))]) t → S0 t := fun t k => p177 t (by
       refine XS.pop Xc132.here hx rfl (hb hby at_83) rfl rfl ?_
       refine XS.iload Xc132.here hx rfl (hb hby at_84) rfl ?_
       refine XS.ifNo Xc132.here hx rfl (hb hby at_86) rfl ((if0 _ _).trans (feq g127).1) ?_
       refine XS.iload Xc132.here hx rfl (hb hby at_89) rfl ?_
       exact k)
     by_cases g179 : (own_isz (own_cmp3 i0 i1 i2 i3 i4 i0)) = (0 : Int32)
     ·
      let Ls180 : Array Slot := #[.val (.int i0), .val (.int i1), .val (.int i2), .val (.int i3), .val (.int i4), .val (.int i5), .val (.int w2), .val (.int (0 : Int32)), .val (.int (own_isz (own_cmp3 i0 i1 i2 i3 i4 i0))), .val (.ref o45), .val (.long (2 : Int64)), .second, .unset, .unset, .unset]
      let Ls181 : Array Slot := #[.val (.int i0), .val (.int i1), .val (.int i2), .val (.int i3), .val (.int i4), .val (.int i5), .val (.int w2), .val (.int (0 : Int32)), .val (.int (own_isz (own_cmp3 i0 i1 i2 i3 i4 i0))), .val (.ref o45), .val (.long (2 : Int64)), .second, .val .null, .unset, .unset]
      have p182 : ∀ t, St p e below Tc132 (mkF m 118 Ls181 []) t → S0 t := fun t k => p178 t (by
        refine XS.ifNo Xc132.here hx rfl (hb hby at_91) rfl ((if0 _ _).trans (teq g179).2) ?_
        refine Xc132.ldc2J hx hown (mvT hZ (ww hw 61 rfl)) rfl (hb hby at_94) ?_
        refine XS.goto Xc132.here hx rfl (pc0 := 97) (pc' := 101) rfl (hb hby at_97) (by decide) (by decide) ?_
        refine XS.lstore Xc132.here hx rfl (hb hby at_101) rfl (l' := Ls180) rfl ?_
        refine XS.aconstNull Xc132.here hx rfl (hb hby at_103) ?_
        show St p e below Tc132 (mkF m 104 Ls180 [.null]) t
        refine XS.astore Xc132.here hx rfl (hb hby at_104) rfl rfl (l' := Ls181) rfl ?_
        refine XS.iload Xc132.here hx rfl (hb hby at_106) rfl ?_
        refine XS.ifYes Xc132.here hx rfl (pc0 := 108) (pc' := 118) rfl (hb hby at_108) rfl ((if0 _ _).trans (teq (by decide : (0 : Int32) = (0 : Int32))).1) (by decide) (by decide) ?_
        exact k)
      exact ⟨(2 : Int64), i0, i1, i2, i3, i4, i0, (2 : Int32), Tc132, _, Tc132.heap, Xc132, rfl, Nc132, O175, K176, f_143, f_144, f_134, f_135, f_136, f_137, f_138, f_139, f_140, V_171, E_172, f_89, f_141, f_142, V_173, E_174, p182⟩
     ·
      exact (ar4 g133 g179).elim
    ·
     have V_183 := f_87.keep Kcc132 (ninS ne_o5_c57_o9_c77 (ninS nn_o5_c57_o34_c57 (ninS (Ne.symm ne_o45_o5_c57) nin0)))
     have E_184 := f_88.keep Kcc132
     have V_185 := f_92.keep Kcc132 (ninS ne_o66_c57_o9_c77 (ninS (Ne.symm nn_o34_c57_o66_c57) (ninS (Ne.symm ne_o45_o66_c57) nin0)))
     have E_186 := f_93.keep Kcc132
     have O187 := O94.keep Kcc132 (allS gn_o9_c77 (allS gn_o34_c57 (allS gb_o45 all0)))
     have K188 := Keep.trans K95 Kcc132 (allS (Or.inr sz_o9_c77) (allS (Or.inr sz_o34_c57) (allS (Or.inr sz_o45) all0)))
     have p189 : ∀ t, St p e below Tc132 (mkF m 83 Ls99 [(.int (1 : Int32))]) t → S0 t := fun t k => p131 t (stc132.trans k)
     have p190 : ∀ t, St p e below Tc132 (mkF m 91 Ls99 [(.int (own_isz (own_cmp3 i0 i1 i2 i3 i4 i0)))]) t → S0 t := fun t k => p189 t (by
       refine XS.pop Xc132.here hx rfl (hb hby at_83) rfl rfl ?_
       refine XS.iload Xc132.here hx rfl (hb hby at_84) rfl ?_
       refine XS.ifNo Xc132.here hx rfl (hb hby at_86) rfl ((if0 _ _).trans (feq g127).1) ?_
       refine XS.iload Xc132.here hx rfl (hb hby at_89) rfl ?_
       exact k)
     by_cases g191 : (own_isz (own_cmp3 i0 i1 i2 i3 i4 i0)) = (0 : Int32)
     ·
      let Ls192 : Array Slot := #[.val (.int i0), .val (.int i1), .val (.int i2), .val (.int i3), .val (.int i4), .val (.int i5), .val (.int w2), .val (.int (0 : Int32)), .val (.int (own_isz (own_cmp3 i0 i1 i2 i3 i4 i0))), .val (.ref o45), .val (.long (2 : Int64)), .second, .unset, .unset, .unset]
      let Ls193 : Array Slot := #[.val (.int i0), .val (.int i1), .val (.int i2), .val (.int i3), .val (.int i4), .val (.int i5), .val (.int w2), .val (.int (0 : Int32)), .val (.int (own_isz (own_cmp3 i0 i1 i2 i3 i4 i0))), .val (.ref o45), .val (.long (2 : Int64)), .second, .val .null, .unset, .unset]
      have p194 : ∀ t, St p e below Tc132 (mkF m 118 Ls193 []) t → S0 t := fun t k => p190 t (by
        refine XS.ifNo Xc132.here hx rfl (hb hby at_91) rfl ((if0 _ _).trans (teq g191).2) ?_
        refine Xc132.ldc2J hx hown (mvT hZ (ww hw 61 rfl)) rfl (hb hby at_94) ?_
        refine XS.goto Xc132.here hx rfl (pc0 := 97) (pc' := 101) rfl (hb hby at_97) (by decide) (by decide) ?_
        refine XS.lstore Xc132.here hx rfl (hb hby at_101) rfl (l' := Ls192) rfl ?_
        refine XS.aconstNull Xc132.here hx rfl (hb hby at_103) ?_
        show St p e below Tc132 (mkF m 104 Ls192 [.null]) t
        refine XS.astore Xc132.here hx rfl (hb hby at_104) rfl rfl (l' := Ls193) rfl ?_
        refine XS.iload Xc132.here hx rfl (hb hby at_106) rfl ?_
        refine XS.ifYes Xc132.here hx rfl (pc0 := 108) (pc' := 118) rfl (hb hby at_108) rfl ((if0 _ _).trans (teq (by decide : (0 : Int32) = (0 : Int32))).1) (by decide) (by decide) ?_
        exact k)
      exact ⟨(2 : Int64), i3, i4, i0, i0, i1, i2, (2 : Int32), Tc132, _, Tc132.heap, Xc132, rfl, Nc132, O187, K188, f_156, f_157, f_147, f_148, f_149, f_150, f_151, f_152, f_153, V_183, E_184, f_89, f_154, f_155, V_185, E_186, p194⟩
     ·
      exact (ar5 g146 g191).elim
    ·
     have V_195 := f_87.keep Kcc132 (ninS ne_o5_c57_o9_c77 (ninS nn_o5_c57_o34_c57 (ninS (Ne.symm ne_o45_o5_c57) nin0)))
     have E_196 := f_88.keep Kcc132
     have V_197 := f_92.keep Kcc132 (ninS ne_o66_c57_o9_c77 (ninS (Ne.symm nn_o34_c57_o66_c57) (ninS (Ne.symm ne_o45_o66_c57) nin0)))
     have E_198 := f_93.keep Kcc132
     have O199 := O94.keep Kcc132 (allS gn_o9_c77 (allS gn_o34_c57 (allS gb_o45 all0)))
     have K200 := Keep.trans K95 Kcc132 (allS (Or.inr sz_o9_c77) (allS (Or.inr sz_o34_c57) (allS (Or.inr sz_o45) all0)))
     have p201 : ∀ t, St p e below Tc132 (mkF m 83 Ls99 [(.int (0 : Int32))]) t → S0 t := fun t k => p131 t (stc132.trans k)
     have p202 : ∀ t, St p e below Tc132 (mkF m 91 Ls99 [(.int (own_isz (own_cmp3 i0 i1 i2 i3 i4 i0)))]) t → S0 t := fun t k => p201 t (by
       refine XS.pop Xc132.here hx rfl (hb hby at_83) rfl rfl ?_
       refine XS.iload Xc132.here hx rfl (hb hby at_84) rfl ?_
       refine XS.ifNo Xc132.here hx rfl (hb hby at_86) rfl ((if0 _ _).trans (feq g127).1) ?_
       refine XS.iload Xc132.here hx rfl (hb hby at_89) rfl ?_
       exact k)
     by_cases g203 : (own_isz (own_cmp3 i0 i1 i2 i3 i4 i0)) = (0 : Int32)
     ·
      exact (ar6 g158 g159 g203).elim
     ·
      let Ls204 : Array Slot := #[.val (.int i0), .val (.int i1), .val (.int i2), .val (.int i3), .val (.int i4), .val (.int i5), .val (.int w2), .val (.int (0 : Int32)), .val (.int (own_isz (own_cmp3 i0 i1 i2 i3 i4 i0))), .val (.ref o45), .val (.long (1 : Int64)), .second, .unset, .unset, .unset]
      let Ls205 : Array Slot := #[.val (.int i0), .val (.int i1), .val (.int i2), .val (.int i3), .val (.int i4), .val (.int i5), .val (.int w2), .val (.int (0 : Int32)), .val (.int (own_isz (own_cmp3 i0 i1 i2 i3 i4 i0))), .val (.ref o45), .val (.long (1 : Int64)), .second, .val .null, .unset, .unset]
      have p206 : ∀ t, St p e below Tc132 (mkF m 118 Ls205 []) t → S0 t := fun t k => p202 t (by
        refine XS.ifYes Xc132.here hx rfl (pc0 := 91) (pc' := 100) rfl (hb hby at_91) rfl ((if0 _ _).trans (feq g203).2) (by decide) (by decide) ?_
        refine XT.lconstV Xc132.here hx rfl (1 : Int64) (hb hby at_100) (by decide) ?_
        refine XS.lstore Xc132.here hx rfl (hb hby at_101) rfl (l' := Ls204) rfl ?_
        refine XS.aconstNull Xc132.here hx rfl (hb hby at_103) ?_
        refine XS.astore Xc132.here hx rfl (hb hby at_104) rfl rfl (l' := Ls205) rfl ?_
        show St p e below Tc132 (mkF m 106 Ls205 []) t
        refine XS.iload Xc132.here hx rfl (hb hby at_106) rfl ?_
        refine XS.ifYes Xc132.here hx rfl (pc0 := 108) (pc' := 118) rfl (hb hby at_108) rfl ((if0 _ _).trans (teq (by decide : (0 : Int32) = (0 : Int32))).1) (by decide) (by decide) ?_
        exact k)
      exact ⟨(1 : Int64), i0, i1, i2, (0 : Int32), (0 : Int32), (0 : Int32), (1 : Int32), Tc132, _, Tc132.heap, Xc132, rfl, Nc132, O199, K200, f_169, f_170, f_160, f_161, f_162, f_163, f_164, f_165, f_166, V_195, E_196, f_89, f_167, f_168, V_197, E_198, p206⟩
  let Ls207 : Array Slot := #[.val (.int i0), .val (.int i1), .val (.int i2), .val (.int i3), .val (.int i4), .val (.int i5), .val (.int w2), .val (.int (0 : Int32)), .val (.int (own_isz (own_cmp3 i0 i1 i2 i3 i4 i0))), .val (.ref o45), .val (.long w102), .second, .val .null, .unset, .unset]
  have p208 : ∀ t, St p e below Tj101 (mkF m 120 Ls207 [(.ref o45)]) t → S0 t := fun t k => pj101 t (by
    refine XS.aload Xj101.here hx rfl (hb hby at_118) rfl rfl ?_
    exact k)
  obtain ⟨cqc209, kqc209, qc209a, qc209b, qc209c⟩ := isOf hZ ej101 E_111
  obtain ⟨_, _, ⟨Tc209, Lc209, kc209, nc209⟩, -, Xc209, ⟨Lcc209, hQc209, lc209, yc209, zc209⟩, stc209⟩ := Xj101.virtualBack hx (y := M9) (z := M9) hown (mvT hZ (ww hw 71 rfl)) (mvT hZ (ww hw 72 rfl)) (notFace_of_selects (args := #[]) (mvT hZ (ww hw 74 rfl))) (mvT hZ (ww hw 74 rfl)) (mvT hZ (ww hw 73 rfl)) (by decide) (backOf (W := 0) (rm13_11 l Z a0 hw [] (0 : Int32) (1 : Int32) w102 o45 o5_c57 o34_c57 o66_c57 Hj101 n0 Oj101  gb_o45 gn_o5_c57 gn_o34_c57 gn_o66_c57 ne_o45_o5_c57 ne_o45_o34_c57 ne_o45_o66_c57 nn_o5_c57_o34_c57 nn_o5_c57_o66_c57 nn_o34_c57_o66_c57 E_111 F_112 F_113 F_114 F_115 F_116 F_117) hZ (ww hw 75 rfl) (ww hw 2 rfl) (by decide) (by decide)) qc209a qc209c (g := (mkF m 120 Ls207 [(.ref o45)])) rfl (by rw [hml]; rfl) (Steps.refl _) (argsL := []) (rest := []) (lenOf pd0 rfl) rfl (by show 2 * 0 + _ ≤ _; exact Nat.le_of_eq rfl) (hb hby at_120) (fun _ _ => ⟨rfl, ej101, (by decide : 5 + 3 ≤ _), (by decide : 30 + 12 ≤ _)⟩)
  dsimp only [Pt.U, Pt.locs, Pt.cells, Pt.slots] at Xc209 lc209 yc209 zc209 stc209 hQc209
  subst lc209 yc209 zc209
  obtain ⟨Nqc209, hAc209⟩ := hQc209
  have Nc209 := Fr.app Nj101 Nqc209
  obtain ⟨o2_c209, o31_c209, o63_c209, k2_c209, k31_c209, k63_c209, rfl, Kcc209, gn_o2_c209, zn_o2_c209, gn_o31_c209, zn_o31_c209, gn_o63_c209, zn_o63_c209, nn_o2_c209_o31_c209, nn_o2_c209_o63_c209, nn_o31_c209_o63_c209, f_210, f_211, f_212, f_213, f_214, f_215, f_216, f_217, f_218, f_219, f_220, f_221, f_222, f_223⟩ := hAc209
  have ne_o9_c77_o2_c209 : o9_c77 ≠ o2_c209 := Nat.ne_of_lt (Nat.lt_of_lt_of_le V_103.lt zn_o2_c209)
  have ne_o45_o2_c209 : o45 ≠ o2_c209 := Nat.ne_of_lt (Nat.lt_of_lt_of_le E_111.lt zn_o2_c209)
  have ne_o5_c57_o2_c209 : o5_c57 ≠ o2_c209 := Nat.ne_of_lt (Nat.lt_of_lt_of_le V_118.lt zn_o2_c209)
  have ne_o34_c57_o2_c209 : o34_c57 ≠ o2_c209 := Nat.ne_of_lt (Nat.lt_of_lt_of_le V_121.lt zn_o2_c209)
  have ne_o66_c57_o2_c209 : o66_c57 ≠ o2_c209 := Nat.ne_of_lt (Nat.lt_of_lt_of_le V_124.lt zn_o2_c209)
  have ne_o9_c77_o31_c209 : o9_c77 ≠ o31_c209 := Nat.ne_of_lt (Nat.lt_of_lt_of_le V_103.lt zn_o31_c209)
  have ne_o45_o31_c209 : o45 ≠ o31_c209 := Nat.ne_of_lt (Nat.lt_of_lt_of_le E_111.lt zn_o31_c209)
  have ne_o5_c57_o31_c209 : o5_c57 ≠ o31_c209 := Nat.ne_of_lt (Nat.lt_of_lt_of_le V_118.lt zn_o31_c209)
  have ne_o34_c57_o31_c209 : o34_c57 ≠ o31_c209 := Nat.ne_of_lt (Nat.lt_of_lt_of_le V_121.lt zn_o31_c209)
  have ne_o66_c57_o31_c209 : o66_c57 ≠ o31_c209 := Nat.ne_of_lt (Nat.lt_of_lt_of_le V_124.lt zn_o31_c209)
  have ne_o9_c77_o63_c209 : o9_c77 ≠ o63_c209 := Nat.ne_of_lt (Nat.lt_of_lt_of_le V_103.lt zn_o63_c209)
  have ne_o45_o63_c209 : o45 ≠ o63_c209 := Nat.ne_of_lt (Nat.lt_of_lt_of_le E_111.lt zn_o63_c209)
  have ne_o5_c57_o63_c209 : o5_c57 ≠ o63_c209 := Nat.ne_of_lt (Nat.lt_of_lt_of_le V_118.lt zn_o63_c209)
  have ne_o34_c57_o63_c209 : o34_c57 ≠ o63_c209 := Nat.ne_of_lt (Nat.lt_of_lt_of_le V_121.lt zn_o63_c209)
  have ne_o66_c57_o63_c209 : o66_c57 ≠ o63_c209 := Nat.ne_of_lt (Nat.lt_of_lt_of_le V_124.lt zn_o63_c209)
  have sz_o2_c209 : h0.size ≤ o2_c209 := Nat.le_trans (Kj101).1 zn_o2_c209
  have sz_o31_c209 : h0.size ≤ o31_c209 := Nat.le_trans (Kj101).1 zn_o31_c209
  have sz_o63_c209 : h0.size ≤ o63_c209 := Nat.le_trans (Kj101).1 zn_o63_c209
  have V_224 := V_103.keep Kcc209 (ninS (Ne.symm ne_o45_o9_c77) nin0)
  have E_225 := E_110.keep Kcc209
  have V_226 := V_118.keep Kcc209 (ninS (Ne.symm ne_o45_o5_c57) nin0)
  have E_227 := E_119.keep Kcc209
  have V_228 := V_121.keep Kcc209 (ninS (Ne.symm ne_o45_o34_c57) nin0)
  have E_229 := E_123.keep Kcc209
  have V_230 := V_124.keep Kcc209 (ninS (Ne.symm ne_o45_o66_c57) nin0)
  have E_231 := E_125.keep Kcc209
  have O232 := Oj101.keep Kcc209 (allS gb_o45 all0)
  have K233 := Keep.trans Kj101 Kcc209 (allS (Or.inr sz_o45) all0)
  have p234 : ∀ t, St p e below Tc209 (mkF m 123 Ls207 []) t → S0 t := fun t k => p208 t (stc209.trans k)
  have p235 : ∀ t, St p e below Tc209 (mkF m 125 Ls207 [(.ref o45)]) t → S0 t := fun t k => p234 t (by
    refine XS.aload Xc209.here hx rfl (hb hby at_123) rfl rfl ?_
    exact k)
  obtain ⟨cqc236, kqc236, qc236a, qc236b, qc236c⟩ := isOf hZ rfl f_210
  obtain ⟨_, _, ⟨Tc236, Lc236, kc236, nc236⟩, -, Xc236, ⟨Lcc236, hQc236, lc236, yc236, zc236⟩, stc236⟩ := Xc209.virtualBack hx (y := M10) (z := M10) hown (mvT hZ (ww hw 76 rfl)) (mvT hZ (ww hw 77 rfl)) (notFace_of_selects (args := #[]) (mvT hZ (ww hw 79 rfl))) (mvT hZ (ww hw 79 rfl)) (mvT hZ (ww hw 78 rfl)) (by decide) (backOf (W := 0) (rm14_12 l Z a0 hw [] (0 : Int64) o45 Tc209.heap n0 O232  gb_o45 f_210 f_216) hZ (ww hw 80 rfl) (ww hw 2 rfl) (by decide) (by decide)) qc236a qc236c (g := (mkF m 125 Ls207 [(.ref o45)])) rfl (by rw [hml]; rfl) (Steps.refl _) (argsL := []) (rest := []) (lenOf pd8 rfl) rfl (by show 2 * 0 + _ ≤ _; exact Nat.le_of_eq rfl) (hb hby at_125) (fun _ _ => ⟨rfl, rfl, (by decide : 8 + 0 ≤ _), (by decide : 42 + 0 ≤ _)⟩)
  dsimp only [Pt.U, Pt.locs, Pt.cells, Pt.slots] at Xc236 lc236 yc236 zc236 stc236 hQc236
  subst lc236 yc236 zc236
  obtain ⟨Nqc236, ec236, hAc236⟩ := hQc236
  have Nc236 := Fr.app Nc209 Nqc236
  obtain rfl := hAc236
  have p237 : ∀ t, St p e below Tc236 (mkF m 128 Ls207 [(.long (0 : Int64))]) t → S0 t := fun t k => p235 t (stc236.trans k)
  have p238 : ∀ t, St p e below Tc236 (mkF m 138 Ls207 [(.int i2), (.int i1), (.int i0), (.ref o45)]) t → S0 t := fun t k => p237 t (by
    refine XT.lconstV Xc236.here hx rfl (0 : Int64) (hb hby at_128) (by decide) ?_
    refine XS.lcmp Xc236.here hx rfl (hb hby at_129) rfl ?_
    refine XS.ifNo Xc236.here hx rfl (hb hby at_130) rfl ((if0 _ _).trans (teq (by decide : (0 : Int32) = (0 : Int32))).2) ?_
    refine XS.aload Xc236.here hx rfl (hb hby at_133) rfl rfl ?_
    refine XS.iloadN Xc236.here hx rfl (hb hby at_135) rfl ?_
    show St p e below Tc236 (mkF m 136 Ls207 [(.int i0), (.ref o45)]) t
    refine XS.iloadN Xc236.here hx rfl (hb hby at_136) rfl ?_
    refine XS.iloadN Xc236.here hx rfl (hb hby at_137) rfl ?_
    exact k)
  obtain ⟨cqc239, kqc239, qc239a, qc239b, qc239c⟩ := isOf hZ ec236 f_210
  obtain ⟨_, _, ⟨Tc239, Lc239, kc239, nc239⟩, -, Xc239, ⟨Lcc239, hQc239, lc239, yc239, zc239⟩, stc239⟩ := Xc236.virtualBack hx (y := M11) (z := M11) hown (mvT hZ (ww hw 81 rfl)) (mvT hZ (ww hw 82 rfl)) (notFace_of_selects (args := #[]) (mvT hZ (ww hw 84 rfl))) (mvT hZ (ww hw 84 rfl)) (mvT hZ (ww hw 83 rfl)) (by decide) (backOf (W := 0) (rm15_13 l Z a0 hw [] i0 i1 i2 o45 o2_c209 o31_c209 k2_c209 k31_c209 Tc209.heap n0 O232  gb_o45 gn_o2_c209 gn_o31_c209 ne_o45_o2_c209 ne_o45_o31_c209 nn_o2_c209_o31_c209 f_210 f_211 f_212 f_215 f_217 f_218 f_220 f_221) hZ (ww hw 85 rfl) (ww hw 2 rfl) (by decide) (by decide)) qc239a qc239c (g := (mkF m 138 Ls207 [(.int i2), (.int i1), (.int i0), (.ref o45)])) rfl (by rw [hml]; rfl) (Steps.refl _) (argsL := [(.int i0), (.int i1), (.int i2)]) (rest := []) (lenOf pd5 rfl) rfl (by show 2 * 0 + _ ≤ _; exact Nat.le_of_eq rfl) (hb hby at_138) (fun _ _ => ⟨rfl, ec236, (by decide : 8 + 0 ≤ _), (by decide : 42 + 0 ≤ _)⟩)
  dsimp only [Pt.U, Pt.locs, Pt.cells, Pt.slots] at Xc239 lc239 yc239 zc239 stc239 hQc239
  subst lc239 yc239 zc239
  obtain ⟨Nqc239, ec239, hAc239⟩ := hQc239
  have Nc239 := Fr.app Nc236 Nqc239
  obtain rfl := hAc239
  have p240 : ∀ t, St p e below Tc239 (mkF m 141 Ls207 [(.int (0 : Int32))]) t → S0 t := fun t k => p238 t (stc239.trans k)
  have p241 : ∀ t, St p e below Tc239 (mkF m 150 Ls207 [(.int i0), (.int i4), (.int i3), (.ref o45)]) t → S0 t := fun t k => p240 t (by
    refine XS.ifNo Xc239.here hx rfl (hb hby at_141) rfl ((if0 _ _).trans (teq (by decide : (0 : Int32) = (0 : Int32))).2) ?_
    refine XS.aload Xc239.here hx rfl (hb hby at_144) rfl rfl ?_
    refine XS.iloadN Xc239.here hx rfl (hb hby at_146) rfl ?_
    refine XS.iload Xc239.here hx rfl (hb hby at_147) rfl ?_
    refine XS.iloadN Xc239.here hx rfl (hb hby at_149) rfl ?_
    exact k)
  obtain ⟨cqc242, kqc242, qc242a, qc242b, qc242c⟩ := isOf hZ ec239 f_210
  obtain ⟨_, _, ⟨Tc242, Lc242, kc242, nc242⟩, -, Xc242, ⟨Lcc242, hQc242, lc242, yc242, zc242⟩, stc242⟩ := Xc239.virtualBack hx (y := M11) (z := M11) hown (mvT hZ (ww hw 81 rfl)) (mvT hZ (ww hw 82 rfl)) (notFace_of_selects (args := #[]) (mvT hZ (ww hw 84 rfl))) (mvT hZ (ww hw 84 rfl)) (mvT hZ (ww hw 83 rfl)) (by decide) (backOf (W := 0) (rm15_13 l Z a0 hw [] i3 i4 i0 o45 o2_c209 o31_c209 k2_c209 k31_c209 Tc209.heap n0 O232  gb_o45 gn_o2_c209 gn_o31_c209 ne_o45_o2_c209 ne_o45_o31_c209 nn_o2_c209_o31_c209 f_210 f_211 f_212 f_215 f_217 f_218 f_220 f_221) hZ (ww hw 85 rfl) (ww hw 2 rfl) (by decide) (by decide)) qc242a qc242c (g := (mkF m 150 Ls207 [(.int i0), (.int i4), (.int i3), (.ref o45)])) rfl (by rw [hml]; rfl) (Steps.refl _) (argsL := [(.int i3), (.int i4), (.int i0)]) (rest := []) (lenOf pd5 rfl) rfl (by show 2 * 0 + _ ≤ _; exact Nat.le_of_eq rfl) (hb hby at_150) (fun _ _ => ⟨rfl, ec239, (by decide : 8 + 0 ≤ _), (by decide : 42 + 0 ≤ _)⟩)
  dsimp only [Pt.U, Pt.locs, Pt.cells, Pt.slots] at Xc242 lc242 yc242 zc242 stc242 hQc242
  subst lc242 yc242 zc242
  obtain ⟨Nqc242, ec242, hAc242⟩ := hQc242
  have Nc242 := Fr.app Nc239 Nqc242
  obtain rfl := hAc242
  have p243 : ∀ t, St p e below Tc242 (mkF m 153 Ls207 [(.int (0 : Int32))]) t → S0 t := fun t k => p241 t (stc242.trans k)
  let Ls244 : Array Slot := #[.val (.int i0), .val (.int i1), .val (.int i2), .val (.int i3), .val (.int i4), .val (.int i5), .val (.int w2), .val (.int (0 : Int32)), .val (.int (own_isz (own_cmp3 i0 i1 i2 i3 i4 i0))), .val (.ref o45), .val (.long w102), .second, .val .null, .val (.int (1 : Int32)), .unset]
  have p245 : ∀ t, St p e below Tc242 (mkF m 169 Ls244 [(.int i0), (.int i4), (.int i3), (.ref o45)]) t → S0 t := fun t k => p243 t (by
    refine XS.ifNo Xc242.here hx rfl (hb hby at_153) rfl ((if0 _ _).trans (teq (by decide : (0 : Int32) = (0 : Int32))).2) ?_
    refine XT.iconstV Xc242.here hx rfl (1 : Int32) (hb hby at_156) (by decide) ?_
    refine XS.goto Xc242.here hx rfl (pc0 := 157) (pc' := 161) rfl (hb hby at_157) (by decide) (by decide) ?_
    refine XS.istore Xc242.here hx rfl (hb hby at_161) rfl (l' := Ls244) rfl ?_
    refine XS.aload Xc242.here hx rfl (hb hby at_163) rfl rfl ?_
    show St p e below Tc242 (mkF m 165 Ls244 [(.ref o45)]) t
    refine XS.iloadN Xc242.here hx rfl (hb hby at_165) rfl ?_
    refine XS.iload Xc242.here hx rfl (hb hby at_166) rfl ?_
    refine XS.iloadN Xc242.here hx rfl (hb hby at_168) rfl ?_
    exact k)
  obtain ⟨cqc246, kqc246, qc246a, qc246b, qc246c⟩ := isOf hZ ec242 f_210
  obtain ⟨_, _, ⟨Tc246, Lc246, kc246, nc246⟩, -, Xc246, ⟨Lcc246, hQc246, lc246, yc246, zc246⟩, stc246⟩ := Xc242.virtualBack hx (y := M6) (z := M6) hown (mvT hZ (ww hw 19 rfl)) (mvT hZ (ww hw 20 rfl)) (notFace_of_selects (args := #[]) (mvT hZ (ww hw 22 rfl))) (mvT hZ (ww hw 22 rfl)) (mvT hZ (ww hw 21 rfl)) (by decide) (backOf (W := 0) (rm3_1 l Z a0 hw [] i3 i4 i0 o45 o2_c209 o31_c209 o63_c209 k2_c209 k31_c209 k63_c209 Tc209.heap n0 O232  gb_o45 gn_o2_c209 gn_o31_c209 gn_o63_c209 ne_o45_o2_c209 ne_o45_o31_c209 ne_o45_o63_c209 nn_o2_c209_o31_c209 nn_o2_c209_o63_c209 nn_o31_c209_o63_c209 f_210 f_211 f_212 f_213 f_214 f_215 f_216 f_217 f_218 f_219 f_220 f_221 f_222 f_223) hZ (ww hw 23 rfl) (ww hw 2 rfl) (by decide) (by decide)) qc246a qc246c (g := (mkF m 169 Ls244 [(.int i0), (.int i4), (.int i3), (.ref o45)])) rfl (by rw [hml]; rfl) (Steps.refl _) (argsL := [(.int i3), (.int i4), (.int i0)]) (rest := []) (lenOf pd5 rfl) rfl (by show 2 * 0 + _ ≤ _; exact Nat.le_of_eq rfl) (hb hby at_169) (fun _ _ => ⟨rfl, ec242, (by decide : 8 + 1 ≤ _), (by decide : 42 + 12 ≤ _)⟩)
  dsimp only [Pt.U, Pt.locs, Pt.cells, Pt.slots] at Xc246 lc246 yc246 zc246 stc246 hQc246
  subst lc246 yc246 zc246
  obtain ⟨Nqc246, hAc246⟩ := hQc246
  have Nc246 := Fr.app Nc242 Nqc246
  obtain ⟨o9_c246, k9_c246, rfl, Kcc246, gn_o9_c246, zn_o9_c246, f_247, f_248, f_249, f_250, f_251, f_252, f_253, f_254, f_255, f_256, f_257, f_258, f_259, f_260, f_261, f_262⟩ := hAc246
  have ne_o45_o9_c246 : o45 ≠ o9_c246 := Nat.ne_of_lt (Nat.lt_of_lt_of_le f_210.lt zn_o9_c246)
  have ne_o2_c209_o9_c246 : o2_c209 ≠ o9_c246 := Nat.ne_of_lt (Nat.lt_of_lt_of_le f_217.lt zn_o9_c246)
  have ne_o31_c209_o9_c246 : o31_c209 ≠ o9_c246 := Nat.ne_of_lt (Nat.lt_of_lt_of_le f_220.lt zn_o9_c246)
  have ne_o63_c209_o9_c246 : o63_c209 ≠ o9_c246 := Nat.ne_of_lt (Nat.lt_of_lt_of_le f_222.lt zn_o9_c246)
  have sz_o9_c246 : h0.size ≤ o9_c246 := Nat.le_trans (K233).1 zn_o9_c246
  have O263 := O232.keep Kcc246 (allS gb_o45 (allS gn_o63_c209 (allS gn_o31_c209 (allS gn_o2_c209 all0))))
  have K264 := Keep.trans K233 Kcc246 (allS (Or.inr sz_o45) (allS (Or.inr sz_o63_c209) (allS (Or.inr sz_o31_c209) (allS (Or.inr sz_o2_c209) all0))))
  have p265 : ∀ t, St p e below Tc246 (mkF m 172 Ls244 [(.int (1 : Int32))]) t → S0 t := fun t k => p245 t (stc246.trans k)
  let Ls266 : Array Slot := #[.val (.int i0), .val (.int i1), .val (.int i2), .val (.int i3), .val (.int i4), .val (.int i5), .val (.int w2), .val (.int (0 : Int32)), .val (.int (own_isz (own_cmp3 i0 i1 i2 i3 i4 i0))), .val (.ref o45), .val (.long w102), .second, .val .null, .val (.int (1 : Int32)), .val (.int (1 : Int32))]
  have p267 : ∀ t, St p e below Tc246 (mkF m 186 Ls266 [(.ref o45)]) t → S0 t := fun t k => p265 t (by
    refine XS.istore Xc246.here hx rfl (hb hby at_172) rfl (l' := Ls266) rfl ?_
    refine XS.iload Xc246.here hx rfl (hb hby at_174) rfl ?_
    refine XS.ifNo Xc246.here hx rfl (hb hby at_176) rfl ((if0 _ _).trans (feq (by decide : ¬ ((1 : Int32) = (0 : Int32)))).1) ?_
    refine XS.iload Xc246.here hx rfl (hb hby at_179) rfl ?_
    refine XS.ifNo Xc246.here hx rfl (hb hby at_181) rfl ((if0 _ _).trans (feq (by decide : ¬ ((1 : Int32) = (0 : Int32)))).1) ?_
    show St p e below Tc246 (mkF m 184 Ls266 []) t
    refine XS.aload Xc246.here hx rfl (hb hby at_184) rfl rfl ?_
    exact k)
  obtain ⟨cqc268, kqc268, qc268a, qc268b, qc268c⟩ := isOf hZ rfl f_249
  obtain ⟨_, _, ⟨Tc268, Lc268, kc268, nc268⟩, -, Xc268, ⟨Lcc268, hQc268, lc268, yc268, zc268⟩, stc268⟩ := Xc246.virtualBack hx (y := M10) (z := M10) hown (mvT hZ (ww hw 76 rfl)) (mvT hZ (ww hw 77 rfl)) (notFace_of_selects (args := #[]) (mvT hZ (ww hw 79 rfl))) (mvT hZ (ww hw 79 rfl)) (mvT hZ (ww hw 78 rfl)) (by decide) (backOf (W := 0) (rm14_12 l Z a0 hw [] (1 : Int64) o45 Tc246.heap n0 O263  gb_o45 f_249 f_255) hZ (ww hw 80 rfl) (ww hw 2 rfl) (by decide) (by decide)) qc268a qc268c (g := (mkF m 186 Ls266 [(.ref o45)])) rfl (by rw [hml]; rfl) (Steps.refl _) (argsL := []) (rest := []) (lenOf pd8 rfl) rfl (by show 2 * 0 + _ ≤ _; exact Nat.le_of_eq rfl) (hb hby at_186) (fun _ _ => ⟨rfl, rfl, (by decide : 9 + 0 ≤ _), (by decide : 54 + 0 ≤ _)⟩)
  dsimp only [Pt.U, Pt.locs, Pt.cells, Pt.slots] at Xc268 lc268 yc268 zc268 stc268 hQc268
  subst lc268 yc268 zc268
  obtain ⟨Nqc268, ec268, hAc268⟩ := hQc268
  have Nc268 := Fr.app Nc246 Nqc268
  obtain rfl := hAc268
  have p269 : ∀ t, St p e below Tc268 (mkF m 189 Ls266 [(.long (1 : Int64))]) t → S0 t := fun t k => p267 t (stc268.trans k)
  have p270 : ∀ t, St p e below Tc268 (mkF m 194 Ls266 []) t → S0 t := fun t k => p269 t (by
    refine XT.lconstV Xc268.here hx rfl (1 : Int64) (hb hby at_189) (by decide) ?_
    refine XS.lcmp Xc268.here hx rfl (hb hby at_190) rfl ?_
    refine XS.ifNo Xc268.here hx rfl (hb hby at_191) rfl ((if0 _ _).trans (teq (by decide : (0 : Int32) = (0 : Int32))).2) ?_
    exact k)
  obtain ⟨Tj271, Lj271, Xj271, ej271, Nj271, pj271⟩ : ∃  (Tj271 : State) (Lj271 : List Loc), Stand p l e room_1 s m #[(.int i0), (.int i1), (.int i2), (.int i3), (.int i4), (.int i5)] below meth c Tj271 Lj271 9 54 ∧ Tj271.heap = Tc246.heap ∧ Fr n0 Lj271 ∧ ∀ t, St p e below Tj271 (mkF m 226 #[.val (.int i0), .val (.int i1), .val (.int i2), .val (.int i3), .val (.int i4), .val (.int i5), .val (.int w2), .val (.int (0 : Int32)), .val (.int (own_isz (own_cmp3 i0 i1 i2 i3 i4 i0))), .val (.ref o45), .val (.long w102), .second, .val .null, .val (.int (1 : Int32)), .val (.int (1 : Int32))] []) t → S0 t := by
   have p272 : ∀ t, St p e below Tc268 (mkF m 200 Ls266 [(.int i0), (.int i4), (.int i3), (.ref o45)]) t → S0 t := fun t k => p270 t (by
     refine XS.aload Xc268.here hx rfl (hb hby at_194) rfl rfl ?_
     refine XS.iloadN Xc268.here hx rfl (hb hby at_196) rfl ?_
     refine XS.iload Xc268.here hx rfl (hb hby at_197) rfl ?_
     refine XS.iloadN Xc268.here hx rfl (hb hby at_199) rfl ?_
     exact k)
   obtain ⟨cqc273, kqc273, qc273a, qc273b, qc273c⟩ := isOf hZ ec268 f_249
   obtain ⟨_, _, ⟨Tc273, Lc273, kc273, nc273⟩, -, Xc273, ⟨Lcc273, hQc273, lc273, yc273, zc273⟩, stc273⟩ := Xc268.virtualBack hx (y := M11) (z := M11) hown (mvT hZ (ww hw 81 rfl)) (mvT hZ (ww hw 82 rfl)) (notFace_of_selects (args := #[]) (mvT hZ (ww hw 84 rfl))) (mvT hZ (ww hw 84 rfl)) (mvT hZ (ww hw 83 rfl)) (by decide) (backOf (W := 0) (rm15_14 l Z a0 hw [] i3 i4 i0 i3 i4 i0 (0 : Int32) (0 : Int32) (0 : Int32) (0 : Int32) (0 : Int32) (0 : Int32) (0 : Int32) (0 : Int32) (0 : Int32) o45 o2_c209 o31_c209 o9_c246 k2_c209 k31_c209 k9_c246 Tc246.heap n0 O263  gb_o45 gn_o2_c209 gn_o31_c209 gn_o9_c246 ne_o45_o2_c209 ne_o45_o31_c209 ne_o45_o9_c246 nn_o2_c209_o31_c209 ne_o2_c209_o9_c246 ne_o31_c209_o9_c246 f_249 f_250 f_251 f_254 f_256 f_257 f_259 f_260 f_247 f_248) hZ (ww hw 85 rfl) (ww hw 2 rfl) (by decide) (by decide)) qc273a qc273c (g := (mkF m 200 Ls266 [(.int i0), (.int i4), (.int i3), (.ref o45)])) rfl (by rw [hml]; rfl) (Steps.refl _) (argsL := [(.int i3), (.int i4), (.int i0)]) (rest := []) (lenOf pd5 rfl) rfl (by show 2 * 0 + _ ≤ _; exact Nat.le_of_eq rfl) (hb hby at_200) (fun _ _ => ⟨rfl, ec268, (by decide : 9 + 0 ≤ _), (by decide : 54 + 0 ≤ _)⟩)
   dsimp only [Pt.U, Pt.locs, Pt.cells, Pt.slots] at Xc273 lc273 yc273 zc273 stc273 hQc273
   subst lc273 yc273 zc273
   obtain ⟨Nqc273, ec273, hAc273⟩ := hQc273
   have Nc273 := Fr.app Nc268 Nqc273
   rcases hAc273 with ⟨rfl, g274⟩ | ⟨rfl, g275, g276⟩ | ⟨rfl, g277, g278⟩
   ·
    exact (ar7 g274).elim
   ·
    exact (ar8 g276).elim
   ·
    have p279 : ∀ t, St p e below Tc273 (mkF m 203 Ls266 [(.int (1 : Int32))]) t → S0 t := fun t k => p272 t (stc273.trans k)
    have p280 : ∀ t, St p e below Tc273 (mkF m 211 Ls266 [(.int i2), (.int i1), (.int i0), (.ref o45)]) t → S0 t := fun t k => p279 t (by
      refine XS.ifNo Xc273.here hx rfl (hb hby at_203) rfl ((if0 _ _).trans (feq (by decide : ¬ ((1 : Int32) = (0 : Int32)))).1) ?_
      refine XS.aload Xc273.here hx rfl (hb hby at_206) rfl rfl ?_
      refine XS.iloadN Xc273.here hx rfl (hb hby at_208) rfl ?_
      refine XS.iloadN Xc273.here hx rfl (hb hby at_209) rfl ?_
      refine XS.iloadN Xc273.here hx rfl (hb hby at_210) rfl ?_
      exact k)
    obtain ⟨cqc281, kqc281, qc281a, qc281b, qc281c⟩ := isOf hZ ec273 f_249
    obtain ⟨_, _, ⟨Tc281, Lc281, kc281, nc281⟩, -, Xc281, ⟨Lcc281, hQc281, lc281, yc281, zc281⟩, stc281⟩ := Xc273.virtualBack hx (y := M11) (z := M11) hown (mvT hZ (ww hw 81 rfl)) (mvT hZ (ww hw 82 rfl)) (notFace_of_selects (args := #[]) (mvT hZ (ww hw 84 rfl))) (mvT hZ (ww hw 84 rfl)) (mvT hZ (ww hw 83 rfl)) (by decide) (backOf (W := 0) (rm15_14 l Z a0 hw [] i0 i1 i2 i3 i4 i0 (0 : Int32) (0 : Int32) (0 : Int32) (0 : Int32) (0 : Int32) (0 : Int32) (0 : Int32) (0 : Int32) (0 : Int32) o45 o2_c209 o31_c209 o9_c246 k2_c209 k31_c209 k9_c246 Tc246.heap n0 O263  gb_o45 gn_o2_c209 gn_o31_c209 gn_o9_c246 ne_o45_o2_c209 ne_o45_o31_c209 ne_o45_o9_c246 nn_o2_c209_o31_c209 ne_o2_c209_o9_c246 ne_o31_c209_o9_c246 f_249 f_250 f_251 f_254 f_256 f_257 f_259 f_260 f_247 f_248) hZ (ww hw 85 rfl) (ww hw 2 rfl) (by decide) (by decide)) qc281a qc281c (g := (mkF m 211 Ls266 [(.int i2), (.int i1), (.int i0), (.ref o45)])) rfl (by rw [hml]; rfl) (Steps.refl _) (argsL := [(.int i0), (.int i1), (.int i2)]) (rest := []) (lenOf pd5 rfl) rfl (by show 2 * 0 + _ ≤ _; exact Nat.le_of_eq rfl) (hb hby at_211) (fun _ _ => ⟨rfl, ec273, (by decide : 9 + 0 ≤ _), (by decide : 54 + 0 ≤ _)⟩)
    dsimp only [Pt.U, Pt.locs, Pt.cells, Pt.slots] at Xc281 lc281 yc281 zc281 stc281 hQc281
    subst lc281 yc281 zc281
    obtain ⟨Nqc281, ec281, hAc281⟩ := hQc281
    have Nc281 := Fr.app Nc273 Nqc281
    rcases hAc281 with ⟨rfl, g282⟩ | ⟨rfl, g283, g284⟩ | ⟨rfl, g285, g286⟩
    ·
     have p287 : ∀ t, St p e below Tc281 (mkF m 214 Ls266 [(.int (0 : Int32))]) t → S0 t := fun t k => p280 t (stc281.trans k)
     have p288 : ∀ t, St p e below Tc281 (mkF m 216 Ls266 [(.int (own_isz (own_cmp3 i0 i1 i2 i3 i4 i0))), (.int (0 : Int32))]) t → S0 t := fun t k => p287 t (by
       refine XS.iload Xc281.here hx rfl (hb hby at_214) rfl ?_
       exact k)
     by_cases g289 : (0 : Int32) = (own_isz (own_cmp3 i0 i1 i2 i3 i4 i0))
     ·
      have p290 : ∀ t, St p e below Tc281 (mkF m 226 Ls266 []) t → S0 t := fun t k => p288 t (by
        refine XS.icmpNo Xc281.here hx rfl (hb hby at_216) rfl (teq g289).2 ?_
        refine XT.iconstV Xc281.here hx rfl (1 : Int32) (hb hby at_219) (by decide) ?_
        refine XS.goto Xc281.here hx rfl (pc0 := 220) (pc' := 224) rfl (hb hby at_220) (by decide) (by decide) ?_
        refine XS.istore Xc281.here hx rfl (hb hby at_224) rfl (l' := Ls266) rfl ?_
        exact k)
      exact ⟨_, _, Xc281, ec281, Nc281, p290⟩
     ·
      exact (ar9 g282 g289).elim
    ·
     have p291 : ∀ t, St p e below Tc281 (mkF m 214 Ls266 [(.int (0 : Int32))]) t → S0 t := fun t k => p280 t (stc281.trans k)
     have p292 : ∀ t, St p e below Tc281 (mkF m 216 Ls266 [(.int (own_isz (own_cmp3 i0 i1 i2 i3 i4 i0))), (.int (0 : Int32))]) t → S0 t := fun t k => p291 t (by
       refine XS.iload Xc281.here hx rfl (hb hby at_214) rfl ?_
       exact k)
     by_cases g293 : (0 : Int32) = (own_isz (own_cmp3 i0 i1 i2 i3 i4 i0))
     ·
      have p294 : ∀ t, St p e below Tc281 (mkF m 226 Ls266 []) t → S0 t := fun t k => p292 t (by
        refine XS.icmpNo Xc281.here hx rfl (hb hby at_216) rfl (teq g293).2 ?_
        refine XT.iconstV Xc281.here hx rfl (1 : Int32) (hb hby at_219) (by decide) ?_
        refine XS.goto Xc281.here hx rfl (pc0 := 220) (pc' := 224) rfl (hb hby at_220) (by decide) (by decide) ?_
        refine XS.istore Xc281.here hx rfl (hb hby at_224) rfl (l' := Ls266) rfl ?_
        exact k)
      exact ⟨_, _, Xc281, ec281, Nc281, p294⟩
     ·
      exact (ar10 g284 g293).elim
    ·
     have p295 : ∀ t, St p e below Tc281 (mkF m 214 Ls266 [(.int (1 : Int32))]) t → S0 t := fun t k => p280 t (stc281.trans k)
     have p296 : ∀ t, St p e below Tc281 (mkF m 216 Ls266 [(.int (own_isz (own_cmp3 i0 i1 i2 i3 i4 i0))), (.int (1 : Int32))]) t → S0 t := fun t k => p295 t (by
       refine XS.iload Xc281.here hx rfl (hb hby at_214) rfl ?_
       exact k)
     by_cases g297 : (1 : Int32) = (own_isz (own_cmp3 i0 i1 i2 i3 i4 i0))
     ·
      have p298 : ∀ t, St p e below Tc281 (mkF m 226 Ls266 []) t → S0 t := fun t k => p296 t (by
        refine XS.icmpNo Xc281.here hx rfl (hb hby at_216) rfl (teq g297).2 ?_
        refine XT.iconstV Xc281.here hx rfl (1 : Int32) (hb hby at_219) (by decide) ?_
        refine XS.goto Xc281.here hx rfl (pc0 := 220) (pc' := 224) rfl (hb hby at_220) (by decide) (by decide) ?_
        refine XS.istore Xc281.here hx rfl (hb hby at_224) rfl (l' := Ls266) rfl ?_
        exact k)
      exact ⟨_, _, Xc281, ec281, Nc281, p298⟩
     ·
      exact (ar11 g285 g286 g297).elim
  let Ls299 : Array Slot := #[.val (.int i0), .val (.int i1), .val (.int i2), .val (.int i3), .val (.int i4), .val (.int i5), .val (.int w2), .val (.int (0 : Int32)), .val (.int (own_isz (own_cmp3 i0 i1 i2 i3 i4 i0))), .val (.ref o45), .val (.long w102), .second, .val .null, .val (.int (1 : Int32)), .val (.int (1 : Int32))]
  have p300 : ∀ t, St p e below Tj271 (mkF m 294 Ls299 [(.int (1 : Int32))]) t → S0 t := fun t k => pj271 t (by
    refine XS.iload Xj271.here hx rfl (hb hby at_226) rfl ?_
    refine XS.ifYes Xj271.here hx rfl (pc0 := 228) (pc' := 292) rfl (hb hby at_228) rfl ((if0 _ _).trans (teq (by decide : (0 : Int32) = (0 : Int32))).1) (by decide) (by decide) ?_
    refine XS.iload Xj271.here hx rfl (hb hby at_292) rfl ?_
    exact k)
  obtain ⟨fs, hr, hrun, hended, hW, hsame⟩ := Xj271.leave (v := some (.int (1 : Int32))) (fun h => by rw [Bd.returns] at h; cases h)
  refine ⟨_, _, p300 _ ?_, hrun, hended, _, _, rfl, ?_, ⟨_, rfl⟩, hW, hsame.mono (by decide) (by decide)⟩
  · exact retOut Xj271 hx Bd.returns rfl (Or.inl ⟨rfl, by simp, _, rfl⟩) (hb hby at_294) hr
  · exact ⟨rfl, Nj271⟩
 ·
  by_cases g301 : w12 = (1 : Int32)
  ·
   let Ls303 : Array Slot := #[.val (.int i0), .val (.int i1), .val (.int i2), .val (.int i3), .val (.int i4), .val (.int i5), .val (.int w2), .val (.int (1 : Int32)), .val (.int (own_isz (own_cmp3 i0 i1 i2 i3 i4 i0))), .val (.ref o45), .unset, .unset, .unset, .unset, .unset]
   have p302 : ∀ t, St p e below Tc77 (mkF m 68 Ls303 [(.int (1 : Int32))]) t → S0 t := fun t k => p96 t (by show St p e below Tc77 (mkF m 68 #[.val (.int i0), .val (.int i1), .val (.int i2), .val (.int i3), .val (.int i4), .val (.int i5), .val (.int w2), .val (.int w12), .val (.int (own_isz (own_cmp3 i0 i1 i2 i3 i4 i0))), .val (.ref o45), .unset, .unset, .unset, .unset, .unset] [(.int (1 : Int32))]) t; rw [g301]; exact k)
   have p304 : ∀ t, St p e below Tc77 (mkF m 71 Ls303 [(.int w2)]) t → S0 t := fun t k => p302 t (by
     refine XS.pop Xc77.here hx rfl (hb hby at_68) rfl rfl ?_
     refine XS.iload Xc77.here hx rfl (hb hby at_69) rfl ?_
     exact k)
   by_cases g305 : w2 = (0 : Int32)
   ·
    let Ls306 : Array Slot := #[.val (.int i0), .val (.int i1), .val (.int i2), .val (.int i3), .val (.int i4), .val (.int i5), .val (.int w2), .val (.int (1 : Int32)), .val (.int (own_isz (own_cmp3 i0 i1 i2 i3 i4 i0))), .val (.ref o45), .val (.long (1 : Int64)), .second, .unset, .unset, .unset]
    let Ls307 : Array Slot := #[.val (.int i0), .val (.int i1), .val (.int i2), .val (.int i3), .val (.int i4), .val (.int i5), .val (.int w2), .val (.int (1 : Int32)), .val (.int (own_isz (own_cmp3 i0 i1 i2 i3 i4 i0))), .val (.ref o45), .val (.long (1 : Int64)), .second, .val .null, .unset, .unset]
    have p308 : ∀ t, St p e below Tc77 (mkF m 113 Ls307 [(.ref o45)]) t → S0 t := fun t k => p304 t (by
      refine XS.ifYes Xc77.here hx rfl (pc0 := 71) (pc' := 84) rfl (hb hby at_71) rfl ((if0 _ _).trans (teq g305).1) (by decide) (by decide) ?_
      refine XS.iload Xc77.here hx rfl (hb hby at_84) rfl ?_
      refine XS.ifYes Xc77.here hx rfl (pc0 := 86) (pc' := 100) rfl (hb hby at_86) rfl ((if0 _ _).trans (teq g305).1) (by decide) (by decide) ?_
      refine XT.lconstV Xc77.here hx rfl (1 : Int64) (hb hby at_100) (by decide) ?_
      refine XS.lstore Xc77.here hx rfl (hb hby at_101) rfl (l' := Ls306) rfl ?_
      show St p e below Tc77 (mkF m 103 Ls306 []) t
      refine XS.aconstNull Xc77.here hx rfl (hb hby at_103) ?_
      refine XS.astore Xc77.here hx rfl (hb hby at_104) rfl rfl (l' := Ls307) rfl ?_
      refine XS.iload Xc77.here hx rfl (hb hby at_106) rfl ?_
      refine XS.ifNo Xc77.here hx rfl (hb hby at_108) rfl ((if0 _ _).trans (feq (by decide : ¬ ((1 : Int32) = (0 : Int32)))).1) ?_
      refine XS.aload Xc77.here hx rfl (hb hby at_111) rfl rfl ?_
      exact k)
    obtain ⟨cqc309, kqc309, qc309a, qc309b, qc309c⟩ := isOf hZ rfl f_80
    obtain ⟨_, _, ⟨Tc309, Lc309, kc309, nc309⟩, -, Xc309, ⟨Lcc309, hQc309, lc309, yc309, zc309⟩, stc309⟩ := Xc77.virtualBack hx (y := M13) (z := M13) hown (mvT hZ (ww hw 62 rfl)) (mvT hZ (ww hw 63 rfl)) (notFace_of_selects (args := #[]) (mvT hZ (ww hw 65 rfl))) (mvT hZ (ww hw 65 rfl)) (mvT hZ (ww hw 64 rfl)) (by decide) (backOf (W := 0) (rm11_15 l Z a0 hw [] (0 : Int32) (1 : Int32) (1 : Int64) o45 o5_c57 o34_c57 o66_c57 Tc77.heap n0 O94  gb_o45 gn_o5_c57 gn_o34_c57 gn_o66_c57 ne_o45_o5_c57 ne_o45_o34_c57 ne_o45_o66_c57 nn_o5_c57_o34_c57 nn_o5_c57_o66_c57 nn_o34_c57_o66_c57 f_80 f_81 f_82 f_83 f_84 f_85 f_86) hZ (ww hw 66 rfl) (ww hw 2 rfl) (by decide) (by decide)) qc309a qc309c (g := (mkF m 113 Ls307 [(.ref o45)])) rfl (by rw [hml]; rfl) (Steps.refl _) (argsL := []) (rest := []) (lenOf pd10 rfl) rfl (by show 2 * 0 + _ ≤ _; exact Nat.le_of_eq rfl) (hb hby at_113) (fun _ _ => ⟨rfl, rfl, (by decide : 5 + 4 ≤ _), (by decide : 30 + 18 ≤ _)⟩)
    dsimp only [Pt.U, Pt.locs, Pt.cells, Pt.slots] at Xc309 lc309 yc309 zc309 stc309 hQc309
    subst lc309 yc309 zc309
    obtain ⟨Nqc309, hAc309⟩ := hQc309
    have Nc309 := Fr.app Nc77 Nqc309
    obtain ⟨o14_c309, o67_c44_c309, k67_c44_c309, rfl, Kcc309, gn_o14_c309, zn_o14_c309, gn_o67_c44_c309, zn_o67_c44_c309, nn_o14_c309_o67_c44_c309, f_310, f_311, f_312, f_313, f_314, f_315, f_316, f_317, f_318, f_319, f_320, f_321, f_322, f_323, f_324, f_325⟩ := hAc309
    have ne_o9_c77_o14_c309 : o9_c77 ≠ o14_c309 := Nat.ne_of_lt (Nat.lt_of_lt_of_le f_78.lt zn_o14_c309)
    have ne_o45_o14_c309 : o45 ≠ o14_c309 := Nat.ne_of_lt (Nat.lt_of_lt_of_le f_80.lt zn_o14_c309)
    have ne_o5_c57_o14_c309 : o5_c57 ≠ o14_c309 := Nat.ne_of_lt (Nat.lt_of_lt_of_le f_87.lt zn_o14_c309)
    have ne_o34_c57_o14_c309 : o34_c57 ≠ o14_c309 := Nat.ne_of_lt (Nat.lt_of_lt_of_le f_90.lt zn_o14_c309)
    have ne_o66_c57_o14_c309 : o66_c57 ≠ o14_c309 := Nat.ne_of_lt (Nat.lt_of_lt_of_le f_92.lt zn_o14_c309)
    have ne_o9_c77_o67_c44_c309 : o9_c77 ≠ o67_c44_c309 := Nat.ne_of_lt (Nat.lt_of_lt_of_le f_78.lt zn_o67_c44_c309)
    have ne_o45_o67_c44_c309 : o45 ≠ o67_c44_c309 := Nat.ne_of_lt (Nat.lt_of_lt_of_le f_80.lt zn_o67_c44_c309)
    have ne_o5_c57_o67_c44_c309 : o5_c57 ≠ o67_c44_c309 := Nat.ne_of_lt (Nat.lt_of_lt_of_le f_87.lt zn_o67_c44_c309)
    have ne_o34_c57_o67_c44_c309 : o34_c57 ≠ o67_c44_c309 := Nat.ne_of_lt (Nat.lt_of_lt_of_le f_90.lt zn_o67_c44_c309)
    have ne_o66_c57_o67_c44_c309 : o66_c57 ≠ o67_c44_c309 := Nat.ne_of_lt (Nat.lt_of_lt_of_le f_92.lt zn_o67_c44_c309)
    have sz_o14_c309 : h0.size ≤ o14_c309 := Nat.le_trans (K95).1 zn_o14_c309
    have sz_o67_c44_c309 : h0.size ≤ o67_c44_c309 := Nat.le_trans (K95).1 zn_o67_c44_c309
    have V_326 := f_78.keep Kcc309 (ninS (Ne.symm ne_o45_o9_c77) nin0)
    have E_327 := f_79.keep Kcc309
    have V_328 := f_87.keep Kcc309 (ninS (Ne.symm ne_o45_o5_c57) nin0)
    have E_329 := f_88.keep Kcc309
    have V_330 := f_90.keep Kcc309 (ninS (Ne.symm ne_o45_o34_c57) nin0)
    have E_331 := f_91.keep Kcc309
    have V_332 := f_92.keep Kcc309 (ninS (Ne.symm ne_o45_o66_c57) nin0)
    have E_333 := f_93.keep Kcc309
    have O334 := O94.keep Kcc309 (allS gb_o45 all0)
    have K335 := Keep.trans K95 Kcc309 (allS (Or.inr sz_o45) all0)
    have p336 : ∀ t, St p e below Tc309 (mkF m 116 Ls307 [(.ref o14_c309)]) t → S0 t := fun t k => p308 t (stc309.trans k)
    let Ls337 : Array Slot := #[.val (.int i0), .val (.int i1), .val (.int i2), .val (.int i3), .val (.int i4), .val (.int i5), .val (.int w2), .val (.int (1 : Int32)), .val (.int (own_isz (own_cmp3 i0 i1 i2 i3 i4 i0))), .val (.ref o45), .val (.long (1 : Int64)), .second, .val (.ref o14_c309), .unset, .unset]
    have p338 : ∀ t, St p e below Tc309 (mkF m 120 Ls337 [(.ref o45)]) t → S0 t := fun t k => p336 t (by
      refine XS.astore Xc309.here hx rfl (hb hby at_116) rfl rfl (l' := Ls337) rfl ?_
      refine XS.aload Xc309.here hx rfl (hb hby at_118) rfl rfl ?_
      exact k)
    obtain ⟨cqc339, kqc339, qc339a, qc339b, qc339c⟩ := isOf hZ rfl f_310
    obtain ⟨_, _, ⟨Tc339, Lc339, kc339, nc339⟩, -, Xc339, ⟨Lcc339, hQc339, lc339, yc339, zc339⟩, stc339⟩ := Xc309.virtualBack hx (y := M9) (z := M9) hown (mvT hZ (ww hw 71 rfl)) (mvT hZ (ww hw 72 rfl)) (notFace_of_selects (args := #[]) (mvT hZ (ww hw 74 rfl))) (mvT hZ (ww hw 74 rfl)) (mvT hZ (ww hw 73 rfl)) (by decide) (backOf (W := 0) (rm13_11 l Z a0 hw [] (1 : Int32) (1 : Int32) (1 : Int64) o45 o5_c57 o34_c57 o66_c57 Tc309.heap n0 O334  gb_o45 gn_o5_c57 gn_o34_c57 gn_o66_c57 ne_o45_o5_c57 ne_o45_o34_c57 ne_o45_o66_c57 nn_o5_c57_o34_c57 nn_o5_c57_o66_c57 nn_o34_c57_o66_c57 f_310 f_311 f_312 f_313 f_314 f_315 f_316) hZ (ww hw 75 rfl) (ww hw 2 rfl) (by decide) (by decide)) qc339a qc339c (g := (mkF m 120 Ls337 [(.ref o45)])) rfl (by rw [hml]; rfl) (Steps.refl _) (argsL := []) (rest := []) (lenOf pd0 rfl) rfl (by show 2 * 0 + _ ≤ _; exact Nat.le_of_eq rfl) (hb hby at_120) (fun _ _ => ⟨rfl, rfl, (by decide : 9 + 3 ≤ _), (by decide : 48 + 12 ≤ _)⟩)
    dsimp only [Pt.U, Pt.locs, Pt.cells, Pt.slots] at Xc339 lc339 yc339 zc339 stc339 hQc339
    subst lc339 yc339 zc339
    obtain ⟨Nqc339, hAc339⟩ := hQc339
    have Nc339 := Fr.app Nc309 Nqc339
    obtain ⟨o2_c339, o31_c339, o63_c339, k2_c339, k31_c339, k63_c339, rfl, Kcc339, gn_o2_c339, zn_o2_c339, gn_o31_c339, zn_o31_c339, gn_o63_c339, zn_o63_c339, nn_o2_c339_o31_c339, nn_o2_c339_o63_c339, nn_o31_c339_o63_c339, f_340, f_341, f_342, f_343, f_344, f_345, f_346, f_347, f_348, f_349, f_350, f_351, f_352, f_353⟩ := hAc339
    have ne_o9_c77_o2_c339 : o9_c77 ≠ o2_c339 := Nat.ne_of_lt (Nat.lt_of_lt_of_le V_326.lt zn_o2_c339)
    have ne_o5_c57_o2_c339 : o5_c57 ≠ o2_c339 := Nat.ne_of_lt (Nat.lt_of_lt_of_le V_328.lt zn_o2_c339)
    have ne_o34_c57_o2_c339 : o34_c57 ≠ o2_c339 := Nat.ne_of_lt (Nat.lt_of_lt_of_le V_330.lt zn_o2_c339)
    have ne_o66_c57_o2_c339 : o66_c57 ≠ o2_c339 := Nat.ne_of_lt (Nat.lt_of_lt_of_le V_332.lt zn_o2_c339)
    have ne_o45_o2_c339 : o45 ≠ o2_c339 := Nat.ne_of_lt (Nat.lt_of_lt_of_le f_310.lt zn_o2_c339)
    have ne_o14_c309_o2_c339 : o14_c309 ≠ o2_c339 := Nat.ne_of_lt (Nat.lt_of_lt_of_le f_317.lt zn_o2_c339)
    have ne_o67_c44_c309_o2_c339 : o67_c44_c309 ≠ o2_c339 := Nat.ne_of_lt (Nat.lt_of_lt_of_le f_324.lt zn_o2_c339)
    have ne_o9_c77_o31_c339 : o9_c77 ≠ o31_c339 := Nat.ne_of_lt (Nat.lt_of_lt_of_le V_326.lt zn_o31_c339)
    have ne_o5_c57_o31_c339 : o5_c57 ≠ o31_c339 := Nat.ne_of_lt (Nat.lt_of_lt_of_le V_328.lt zn_o31_c339)
    have ne_o34_c57_o31_c339 : o34_c57 ≠ o31_c339 := Nat.ne_of_lt (Nat.lt_of_lt_of_le V_330.lt zn_o31_c339)
    have ne_o66_c57_o31_c339 : o66_c57 ≠ o31_c339 := Nat.ne_of_lt (Nat.lt_of_lt_of_le V_332.lt zn_o31_c339)
    have ne_o45_o31_c339 : o45 ≠ o31_c339 := Nat.ne_of_lt (Nat.lt_of_lt_of_le f_310.lt zn_o31_c339)
    have ne_o14_c309_o31_c339 : o14_c309 ≠ o31_c339 := Nat.ne_of_lt (Nat.lt_of_lt_of_le f_317.lt zn_o31_c339)
    have ne_o67_c44_c309_o31_c339 : o67_c44_c309 ≠ o31_c339 := Nat.ne_of_lt (Nat.lt_of_lt_of_le f_324.lt zn_o31_c339)
    have ne_o9_c77_o63_c339 : o9_c77 ≠ o63_c339 := Nat.ne_of_lt (Nat.lt_of_lt_of_le V_326.lt zn_o63_c339)
    have ne_o5_c57_o63_c339 : o5_c57 ≠ o63_c339 := Nat.ne_of_lt (Nat.lt_of_lt_of_le V_328.lt zn_o63_c339)
    have ne_o34_c57_o63_c339 : o34_c57 ≠ o63_c339 := Nat.ne_of_lt (Nat.lt_of_lt_of_le V_330.lt zn_o63_c339)
    have ne_o66_c57_o63_c339 : o66_c57 ≠ o63_c339 := Nat.ne_of_lt (Nat.lt_of_lt_of_le V_332.lt zn_o63_c339)
    have ne_o45_o63_c339 : o45 ≠ o63_c339 := Nat.ne_of_lt (Nat.lt_of_lt_of_le f_310.lt zn_o63_c339)
    have ne_o14_c309_o63_c339 : o14_c309 ≠ o63_c339 := Nat.ne_of_lt (Nat.lt_of_lt_of_le f_317.lt zn_o63_c339)
    have ne_o67_c44_c309_o63_c339 : o67_c44_c309 ≠ o63_c339 := Nat.ne_of_lt (Nat.lt_of_lt_of_le f_324.lt zn_o63_c339)
    have sz_o2_c339 : h0.size ≤ o2_c339 := Nat.le_trans (K335).1 zn_o2_c339
    have sz_o31_c339 : h0.size ≤ o31_c339 := Nat.le_trans (K335).1 zn_o31_c339
    have sz_o63_c339 : h0.size ≤ o63_c339 := Nat.le_trans (K335).1 zn_o63_c339
    have V_354 := V_326.keep Kcc339 (ninS (Ne.symm ne_o45_o9_c77) nin0)
    have E_355 := E_327.keep Kcc339
    have V_356 := V_328.keep Kcc339 (ninS (Ne.symm ne_o45_o5_c57) nin0)
    have E_357 := E_329.keep Kcc339
    have V_358 := V_330.keep Kcc339 (ninS (Ne.symm ne_o45_o34_c57) nin0)
    have E_359 := E_331.keep Kcc339
    have V_360 := V_332.keep Kcc339 (ninS (Ne.symm ne_o45_o66_c57) nin0)
    have E_361 := E_333.keep Kcc339
    have E_362 := f_317.keep Kcc339
    have F_363 := f_318.keep Kcc339 (ninS (Ne.symm ne_o45_o14_c309) nin0)
    have F_364 := f_319.keep Kcc339 (ninS (Ne.symm ne_o45_o14_c309) nin0)
    have F_365 := f_320.keep Kcc339 (ninS (Ne.symm ne_o45_o14_c309) nin0)
    have F_366 := f_321.keep Kcc339 (ninS (Ne.symm ne_o45_o14_c309) nin0)
    have F_367 := f_322.keep Kcc339 (ninS (Ne.symm ne_o45_o14_c309) nin0)
    have F_368 := f_323.keep Kcc339 (ninS (Ne.symm ne_o45_o14_c309) nin0)
    have V_369 := f_324.keep Kcc339 (ninS (Ne.symm ne_o45_o67_c44_c309) nin0)
    have E_370 := f_325.keep Kcc339
    have O371 := O334.keep Kcc339 (allS gb_o45 all0)
    have K372 := Keep.trans K335 Kcc339 (allS (Or.inr sz_o45) all0)
    have p373 : ∀ t, St p e below Tc339 (mkF m 123 Ls337 []) t → S0 t := fun t k => p338 t (stc339.trans k)
    have p374 : ∀ t, St p e below Tc339 (mkF m 125 Ls337 [(.ref o45)]) t → S0 t := fun t k => p373 t (by
      refine XS.aload Xc339.here hx rfl (hb hby at_123) rfl rfl ?_
      exact k)
    obtain ⟨cqc375, kqc375, qc375a, qc375b, qc375c⟩ := isOf hZ rfl f_340
    obtain ⟨_, _, ⟨Tc375, Lc375, kc375, nc375⟩, -, Xc375, ⟨Lcc375, hQc375, lc375, yc375, zc375⟩, stc375⟩ := Xc339.virtualBack hx (y := M10) (z := M10) hown (mvT hZ (ww hw 76 rfl)) (mvT hZ (ww hw 77 rfl)) (notFace_of_selects (args := #[]) (mvT hZ (ww hw 79 rfl))) (mvT hZ (ww hw 79 rfl)) (mvT hZ (ww hw 78 rfl)) (by decide) (backOf (W := 0) (rm14_12 l Z a0 hw [] (0 : Int64) o45 Tc339.heap n0 O371  gb_o45 f_340 f_346) hZ (ww hw 80 rfl) (ww hw 2 rfl) (by decide) (by decide)) qc375a qc375c (g := (mkF m 125 Ls337 [(.ref o45)])) rfl (by rw [hml]; rfl) (Steps.refl _) (argsL := []) (rest := []) (lenOf pd8 rfl) rfl (by show 2 * 0 + _ ≤ _; exact Nat.le_of_eq rfl) (hb hby at_125) (fun _ _ => ⟨rfl, rfl, (by decide : 12 + 0 ≤ _), (by decide : 60 + 0 ≤ _)⟩)
    dsimp only [Pt.U, Pt.locs, Pt.cells, Pt.slots] at Xc375 lc375 yc375 zc375 stc375 hQc375
    subst lc375 yc375 zc375
    obtain ⟨Nqc375, ec375, hAc375⟩ := hQc375
    have Nc375 := Fr.app Nc339 Nqc375
    obtain rfl := hAc375
    have p376 : ∀ t, St p e below Tc375 (mkF m 128 Ls337 [(.long (0 : Int64))]) t → S0 t := fun t k => p374 t (stc375.trans k)
    have p377 : ∀ t, St p e below Tc375 (mkF m 138 Ls337 [(.int i2), (.int i1), (.int i0), (.ref o45)]) t → S0 t := fun t k => p376 t (by
      refine XT.lconstV Xc375.here hx rfl (0 : Int64) (hb hby at_128) (by decide) ?_
      refine XS.lcmp Xc375.here hx rfl (hb hby at_129) rfl ?_
      refine XS.ifNo Xc375.here hx rfl (hb hby at_130) rfl ((if0 _ _).trans (teq (by decide : (0 : Int32) = (0 : Int32))).2) ?_
      refine XS.aload Xc375.here hx rfl (hb hby at_133) rfl rfl ?_
      refine XS.iloadN Xc375.here hx rfl (hb hby at_135) rfl ?_
      show St p e below Tc375 (mkF m 136 Ls337 [(.int i0), (.ref o45)]) t
      refine XS.iloadN Xc375.here hx rfl (hb hby at_136) rfl ?_
      refine XS.iloadN Xc375.here hx rfl (hb hby at_137) rfl ?_
      exact k)
    obtain ⟨cqc378, kqc378, qc378a, qc378b, qc378c⟩ := isOf hZ ec375 f_340
    obtain ⟨_, _, ⟨Tc378, Lc378, kc378, nc378⟩, -, Xc378, ⟨Lcc378, hQc378, lc378, yc378, zc378⟩, stc378⟩ := Xc375.virtualBack hx (y := M11) (z := M11) hown (mvT hZ (ww hw 81 rfl)) (mvT hZ (ww hw 82 rfl)) (notFace_of_selects (args := #[]) (mvT hZ (ww hw 84 rfl))) (mvT hZ (ww hw 84 rfl)) (mvT hZ (ww hw 83 rfl)) (by decide) (backOf (W := 0) (rm15_13 l Z a0 hw [] i0 i1 i2 o45 o2_c339 o31_c339 k2_c339 k31_c339 Tc339.heap n0 O371  gb_o45 gn_o2_c339 gn_o31_c339 ne_o45_o2_c339 ne_o45_o31_c339 nn_o2_c339_o31_c339 f_340 f_341 f_342 f_345 f_347 f_348 f_350 f_351) hZ (ww hw 85 rfl) (ww hw 2 rfl) (by decide) (by decide)) qc378a qc378c (g := (mkF m 138 Ls337 [(.int i2), (.int i1), (.int i0), (.ref o45)])) rfl (by rw [hml]; rfl) (Steps.refl _) (argsL := [(.int i0), (.int i1), (.int i2)]) (rest := []) (lenOf pd5 rfl) rfl (by show 2 * 0 + _ ≤ _; exact Nat.le_of_eq rfl) (hb hby at_138) (fun _ _ => ⟨rfl, ec375, (by decide : 12 + 0 ≤ _), (by decide : 60 + 0 ≤ _)⟩)
    dsimp only [Pt.U, Pt.locs, Pt.cells, Pt.slots] at Xc378 lc378 yc378 zc378 stc378 hQc378
    subst lc378 yc378 zc378
    obtain ⟨Nqc378, ec378, hAc378⟩ := hQc378
    have Nc378 := Fr.app Nc375 Nqc378
    obtain rfl := hAc378
    have p379 : ∀ t, St p e below Tc378 (mkF m 141 Ls337 [(.int (0 : Int32))]) t → S0 t := fun t k => p377 t (stc378.trans k)
    have p380 : ∀ t, St p e below Tc378 (mkF m 150 Ls337 [(.int i0), (.int i4), (.int i3), (.ref o45)]) t → S0 t := fun t k => p379 t (by
      refine XS.ifNo Xc378.here hx rfl (hb hby at_141) rfl ((if0 _ _).trans (teq (by decide : (0 : Int32) = (0 : Int32))).2) ?_
      refine XS.aload Xc378.here hx rfl (hb hby at_144) rfl rfl ?_
      refine XS.iloadN Xc378.here hx rfl (hb hby at_146) rfl ?_
      refine XS.iload Xc378.here hx rfl (hb hby at_147) rfl ?_
      refine XS.iloadN Xc378.here hx rfl (hb hby at_149) rfl ?_
      exact k)
    obtain ⟨cqc381, kqc381, qc381a, qc381b, qc381c⟩ := isOf hZ ec378 f_340
    obtain ⟨_, _, ⟨Tc381, Lc381, kc381, nc381⟩, -, Xc381, ⟨Lcc381, hQc381, lc381, yc381, zc381⟩, stc381⟩ := Xc378.virtualBack hx (y := M11) (z := M11) hown (mvT hZ (ww hw 81 rfl)) (mvT hZ (ww hw 82 rfl)) (notFace_of_selects (args := #[]) (mvT hZ (ww hw 84 rfl))) (mvT hZ (ww hw 84 rfl)) (mvT hZ (ww hw 83 rfl)) (by decide) (backOf (W := 0) (rm15_13 l Z a0 hw [] i3 i4 i0 o45 o2_c339 o31_c339 k2_c339 k31_c339 Tc339.heap n0 O371  gb_o45 gn_o2_c339 gn_o31_c339 ne_o45_o2_c339 ne_o45_o31_c339 nn_o2_c339_o31_c339 f_340 f_341 f_342 f_345 f_347 f_348 f_350 f_351) hZ (ww hw 85 rfl) (ww hw 2 rfl) (by decide) (by decide)) qc381a qc381c (g := (mkF m 150 Ls337 [(.int i0), (.int i4), (.int i3), (.ref o45)])) rfl (by rw [hml]; rfl) (Steps.refl _) (argsL := [(.int i3), (.int i4), (.int i0)]) (rest := []) (lenOf pd5 rfl) rfl (by show 2 * 0 + _ ≤ _; exact Nat.le_of_eq rfl) (hb hby at_150) (fun _ _ => ⟨rfl, ec378, (by decide : 12 + 0 ≤ _), (by decide : 60 + 0 ≤ _)⟩)
    dsimp only [Pt.U, Pt.locs, Pt.cells, Pt.slots] at Xc381 lc381 yc381 zc381 stc381 hQc381
    subst lc381 yc381 zc381
    obtain ⟨Nqc381, ec381, hAc381⟩ := hQc381
    have Nc381 := Fr.app Nc378 Nqc381
    obtain rfl := hAc381
    have p382 : ∀ t, St p e below Tc381 (mkF m 153 Ls337 [(.int (0 : Int32))]) t → S0 t := fun t k => p380 t (stc381.trans k)
    let Ls383 : Array Slot := #[.val (.int i0), .val (.int i1), .val (.int i2), .val (.int i3), .val (.int i4), .val (.int i5), .val (.int w2), .val (.int (1 : Int32)), .val (.int (own_isz (own_cmp3 i0 i1 i2 i3 i4 i0))), .val (.ref o45), .val (.long (1 : Int64)), .second, .val (.ref o14_c309), .val (.int (1 : Int32)), .unset]
    have p384 : ∀ t, St p e below Tc381 (mkF m 169 Ls383 [(.int i0), (.int i4), (.int i3), (.ref o45)]) t → S0 t := fun t k => p382 t (by
      refine XS.ifNo Xc381.here hx rfl (hb hby at_153) rfl ((if0 _ _).trans (teq (by decide : (0 : Int32) = (0 : Int32))).2) ?_
      refine XT.iconstV Xc381.here hx rfl (1 : Int32) (hb hby at_156) (by decide) ?_
      refine XS.goto Xc381.here hx rfl (pc0 := 157) (pc' := 161) rfl (hb hby at_157) (by decide) (by decide) ?_
      refine XS.istore Xc381.here hx rfl (hb hby at_161) rfl (l' := Ls383) rfl ?_
      refine XS.aload Xc381.here hx rfl (hb hby at_163) rfl rfl ?_
      show St p e below Tc381 (mkF m 165 Ls383 [(.ref o45)]) t
      refine XS.iloadN Xc381.here hx rfl (hb hby at_165) rfl ?_
      refine XS.iload Xc381.here hx rfl (hb hby at_166) rfl ?_
      refine XS.iloadN Xc381.here hx rfl (hb hby at_168) rfl ?_
      exact k)
    obtain ⟨cqc385, kqc385, qc385a, qc385b, qc385c⟩ := isOf hZ ec381 f_340
    obtain ⟨_, _, ⟨Tc385, Lc385, kc385, nc385⟩, -, Xc385, ⟨Lcc385, hQc385, lc385, yc385, zc385⟩, stc385⟩ := Xc381.virtualBack hx (y := M6) (z := M6) hown (mvT hZ (ww hw 19 rfl)) (mvT hZ (ww hw 20 rfl)) (notFace_of_selects (args := #[]) (mvT hZ (ww hw 22 rfl))) (mvT hZ (ww hw 22 rfl)) (mvT hZ (ww hw 21 rfl)) (by decide) (backOf (W := 0) (rm3_1 l Z a0 hw [] i3 i4 i0 o45 o2_c339 o31_c339 o63_c339 k2_c339 k31_c339 k63_c339 Tc339.heap n0 O371  gb_o45 gn_o2_c339 gn_o31_c339 gn_o63_c339 ne_o45_o2_c339 ne_o45_o31_c339 ne_o45_o63_c339 nn_o2_c339_o31_c339 nn_o2_c339_o63_c339 nn_o31_c339_o63_c339 f_340 f_341 f_342 f_343 f_344 f_345 f_346 f_347 f_348 f_349 f_350 f_351 f_352 f_353) hZ (ww hw 23 rfl) (ww hw 2 rfl) (by decide) (by decide)) qc385a qc385c (g := (mkF m 169 Ls383 [(.int i0), (.int i4), (.int i3), (.ref o45)])) rfl (by rw [hml]; rfl) (Steps.refl _) (argsL := [(.int i3), (.int i4), (.int i0)]) (rest := []) (lenOf pd5 rfl) rfl (by show 2 * 0 + _ ≤ _; exact Nat.le_of_eq rfl) (hb hby at_169) (fun _ _ => ⟨rfl, ec381, (by decide : 12 + 1 ≤ _), (by decide : 60 + 12 ≤ _)⟩)
    dsimp only [Pt.U, Pt.locs, Pt.cells, Pt.slots] at Xc385 lc385 yc385 zc385 stc385 hQc385
    subst lc385 yc385 zc385
    obtain ⟨Nqc385, hAc385⟩ := hQc385
    have Nc385 := Fr.app Nc381 Nqc385
    obtain ⟨o9_c385, k9_c385, rfl, Kcc385, gn_o9_c385, zn_o9_c385, f_386, f_387, f_388, f_389, f_390, f_391, f_392, f_393, f_394, f_395, f_396, f_397, f_398, f_399, f_400, f_401⟩ := hAc385
    have ne_o9_c77_o9_c385 : o9_c77 ≠ o9_c385 := Nat.ne_of_lt (Nat.lt_of_lt_of_le V_354.lt zn_o9_c385)
    have ne_o5_c57_o9_c385 : o5_c57 ≠ o9_c385 := Nat.ne_of_lt (Nat.lt_of_lt_of_le V_356.lt zn_o9_c385)
    have ne_o34_c57_o9_c385 : o34_c57 ≠ o9_c385 := Nat.ne_of_lt (Nat.lt_of_lt_of_le V_358.lt zn_o9_c385)
    have ne_o14_c309_o9_c385 : o14_c309 ≠ o9_c385 := Nat.ne_of_lt (Nat.lt_of_lt_of_le E_362.lt zn_o9_c385)
    have ne_o67_c44_c309_o9_c385 : o67_c44_c309 ≠ o9_c385 := Nat.ne_of_lt (Nat.lt_of_lt_of_le V_369.lt zn_o9_c385)
    have ne_o45_o9_c385 : o45 ≠ o9_c385 := Nat.ne_of_lt (Nat.lt_of_lt_of_le f_340.lt zn_o9_c385)
    have ne_o2_c339_o9_c385 : o2_c339 ≠ o9_c385 := Nat.ne_of_lt (Nat.lt_of_lt_of_le f_347.lt zn_o9_c385)
    have ne_o31_c339_o9_c385 : o31_c339 ≠ o9_c385 := Nat.ne_of_lt (Nat.lt_of_lt_of_le f_350.lt zn_o9_c385)
    have ne_o63_c339_o9_c385 : o63_c339 ≠ o9_c385 := Nat.ne_of_lt (Nat.lt_of_lt_of_le f_352.lt zn_o9_c385)
    have sz_o9_c385 : h0.size ≤ o9_c385 := Nat.le_trans (K372).1 zn_o9_c385
    have V_402 := V_354.keep Kcc385 (ninS (Ne.symm ne_o45_o9_c77) (ninS ne_o9_c77_o63_c339 (ninS ne_o9_c77_o31_c339 (ninS ne_o9_c77_o2_c339 nin0))))
    have E_403 := E_355.keep Kcc385
    have V_404 := V_356.keep Kcc385 (ninS (Ne.symm ne_o45_o5_c57) (ninS ne_o5_c57_o63_c339 (ninS ne_o5_c57_o31_c339 (ninS ne_o5_c57_o2_c339 nin0))))
    have E_405 := E_357.keep Kcc385
    have V_406 := V_358.keep Kcc385 (ninS (Ne.symm ne_o45_o34_c57) (ninS ne_o34_c57_o63_c339 (ninS ne_o34_c57_o31_c339 (ninS ne_o34_c57_o2_c339 nin0))))
    have E_407 := E_359.keep Kcc385
    have E_408 := E_362.keep Kcc385
    have F_409 := F_363.keep Kcc385 (ninS (Ne.symm ne_o45_o14_c309) (ninS ne_o14_c309_o63_c339 (ninS ne_o14_c309_o31_c339 (ninS ne_o14_c309_o2_c339 nin0))))
    have F_410 := F_364.keep Kcc385 (ninS (Ne.symm ne_o45_o14_c309) (ninS ne_o14_c309_o63_c339 (ninS ne_o14_c309_o31_c339 (ninS ne_o14_c309_o2_c339 nin0))))
    have F_411 := F_365.keep Kcc385 (ninS (Ne.symm ne_o45_o14_c309) (ninS ne_o14_c309_o63_c339 (ninS ne_o14_c309_o31_c339 (ninS ne_o14_c309_o2_c339 nin0))))
    have F_412 := F_366.keep Kcc385 (ninS (Ne.symm ne_o45_o14_c309) (ninS ne_o14_c309_o63_c339 (ninS ne_o14_c309_o31_c339 (ninS ne_o14_c309_o2_c339 nin0))))
    have F_413 := F_367.keep Kcc385 (ninS (Ne.symm ne_o45_o14_c309) (ninS ne_o14_c309_o63_c339 (ninS ne_o14_c309_o31_c339 (ninS ne_o14_c309_o2_c339 nin0))))
    have F_414 := F_368.keep Kcc385 (ninS (Ne.symm ne_o45_o14_c309) (ninS ne_o14_c309_o63_c339 (ninS ne_o14_c309_o31_c339 (ninS ne_o14_c309_o2_c339 nin0))))
    have V_415 := V_369.keep Kcc385 (ninS (Ne.symm ne_o45_o67_c44_c309) (ninS ne_o67_c44_c309_o63_c339 (ninS ne_o67_c44_c309_o31_c339 (ninS ne_o67_c44_c309_o2_c339 nin0))))
    have E_416 := E_370.keep Kcc385
    have O417 := O371.keep Kcc385 (allS gb_o45 (allS gn_o63_c339 (allS gn_o31_c339 (allS gn_o2_c339 all0))))
    have K418 := Keep.trans K372 Kcc385 (allS (Or.inr sz_o45) (allS (Or.inr sz_o63_c339) (allS (Or.inr sz_o31_c339) (allS (Or.inr sz_o2_c339) all0))))
    have p419 : ∀ t, St p e below Tc385 (mkF m 172 Ls383 [(.int (1 : Int32))]) t → S0 t := fun t k => p384 t (stc385.trans k)
    let Ls420 : Array Slot := #[.val (.int i0), .val (.int i1), .val (.int i2), .val (.int i3), .val (.int i4), .val (.int i5), .val (.int w2), .val (.int (1 : Int32)), .val (.int (own_isz (own_cmp3 i0 i1 i2 i3 i4 i0))), .val (.ref o45), .val (.long (1 : Int64)), .second, .val (.ref o14_c309), .val (.int (1 : Int32)), .val (.int (1 : Int32))]
    have p421 : ∀ t, St p e below Tc385 (mkF m 186 Ls420 [(.ref o45)]) t → S0 t := fun t k => p419 t (by
      refine XS.istore Xc385.here hx rfl (hb hby at_172) rfl (l' := Ls420) rfl ?_
      refine XS.iload Xc385.here hx rfl (hb hby at_174) rfl ?_
      refine XS.ifNo Xc385.here hx rfl (hb hby at_176) rfl ((if0 _ _).trans (feq (by decide : ¬ ((1 : Int32) = (0 : Int32)))).1) ?_
      refine XS.iload Xc385.here hx rfl (hb hby at_179) rfl ?_
      refine XS.ifNo Xc385.here hx rfl (hb hby at_181) rfl ((if0 _ _).trans (feq (by decide : ¬ ((1 : Int32) = (0 : Int32)))).1) ?_
      show St p e below Tc385 (mkF m 184 Ls420 []) t
      refine XS.aload Xc385.here hx rfl (hb hby at_184) rfl rfl ?_
      exact k)
    obtain ⟨cqc422, kqc422, qc422a, qc422b, qc422c⟩ := isOf hZ rfl f_388
    obtain ⟨_, _, ⟨Tc422, Lc422, kc422, nc422⟩, -, Xc422, ⟨Lcc422, hQc422, lc422, yc422, zc422⟩, stc422⟩ := Xc385.virtualBack hx (y := M10) (z := M10) hown (mvT hZ (ww hw 76 rfl)) (mvT hZ (ww hw 77 rfl)) (notFace_of_selects (args := #[]) (mvT hZ (ww hw 79 rfl))) (mvT hZ (ww hw 79 rfl)) (mvT hZ (ww hw 78 rfl)) (by decide) (backOf (W := 0) (rm14_12 l Z a0 hw [] (1 : Int64) o45 Tc385.heap n0 O417  gb_o45 f_388 f_394) hZ (ww hw 80 rfl) (ww hw 2 rfl) (by decide) (by decide)) qc422a qc422c (g := (mkF m 186 Ls420 [(.ref o45)])) rfl (by rw [hml]; rfl) (Steps.refl _) (argsL := []) (rest := []) (lenOf pd8 rfl) rfl (by show 2 * 0 + _ ≤ _; exact Nat.le_of_eq rfl) (hb hby at_186) (fun _ _ => ⟨rfl, rfl, (by decide : 13 + 0 ≤ _), (by decide : 72 + 0 ≤ _)⟩)
    dsimp only [Pt.U, Pt.locs, Pt.cells, Pt.slots] at Xc422 lc422 yc422 zc422 stc422 hQc422
    subst lc422 yc422 zc422
    obtain ⟨Nqc422, ec422, hAc422⟩ := hQc422
    have Nc422 := Fr.app Nc385 Nqc422
    obtain rfl := hAc422
    have p423 : ∀ t, St p e below Tc422 (mkF m 189 Ls420 [(.long (1 : Int64))]) t → S0 t := fun t k => p421 t (stc422.trans k)
    have p424 : ∀ t, St p e below Tc422 (mkF m 194 Ls420 []) t → S0 t := fun t k => p423 t (by
      refine XT.lconstV Xc422.here hx rfl (1 : Int64) (hb hby at_189) (by decide) ?_
      refine XS.lcmp Xc422.here hx rfl (hb hby at_190) rfl ?_
      refine XS.ifNo Xc422.here hx rfl (hb hby at_191) rfl ((if0 _ _).trans (teq (by decide : (0 : Int32) = (0 : Int32))).2) ?_
      exact k)
    obtain ⟨Tj425, Lj425, Xj425, ej425, Nj425, pj425⟩ : ∃  (Tj425 : State) (Lj425 : List Loc), Stand p l e room_1 s m #[(.int i0), (.int i1), (.int i2), (.int i3), (.int i4), (.int i5)] below meth c Tj425 Lj425 13 72 ∧ Tj425.heap = Tc385.heap ∧ Fr n0 Lj425 ∧ ∀ t, St p e below Tj425 (mkF m 226 #[.val (.int i0), .val (.int i1), .val (.int i2), .val (.int i3), .val (.int i4), .val (.int i5), .val (.int w2), .val (.int (1 : Int32)), .val (.int (own_isz (own_cmp3 i0 i1 i2 i3 i4 i0))), .val (.ref o45), .val (.long (1 : Int64)), .second, .val (.ref o14_c309), .val (.int (1 : Int32)), .val (.int (1 : Int32))] []) t → S0 t := by
     have p426 : ∀ t, St p e below Tc422 (mkF m 200 Ls420 [(.int i0), (.int i4), (.int i3), (.ref o45)]) t → S0 t := fun t k => p424 t (by
       refine XS.aload Xc422.here hx rfl (hb hby at_194) rfl rfl ?_
       refine XS.iloadN Xc422.here hx rfl (hb hby at_196) rfl ?_
       refine XS.iload Xc422.here hx rfl (hb hby at_197) rfl ?_
       refine XS.iloadN Xc422.here hx rfl (hb hby at_199) rfl ?_
       exact k)
     obtain ⟨cqc427, kqc427, qc427a, qc427b, qc427c⟩ := isOf hZ ec422 f_388
     obtain ⟨_, _, ⟨Tc427, Lc427, kc427, nc427⟩, -, Xc427, ⟨Lcc427, hQc427, lc427, yc427, zc427⟩, stc427⟩ := Xc422.virtualBack hx (y := M11) (z := M11) hown (mvT hZ (ww hw 81 rfl)) (mvT hZ (ww hw 82 rfl)) (notFace_of_selects (args := #[]) (mvT hZ (ww hw 84 rfl))) (mvT hZ (ww hw 84 rfl)) (mvT hZ (ww hw 83 rfl)) (by decide) (backOf (W := 0) (rm15_14 l Z a0 hw [] i3 i4 i0 i3 i4 i0 (0 : Int32) (0 : Int32) (0 : Int32) (0 : Int32) (0 : Int32) (0 : Int32) (0 : Int32) (0 : Int32) (0 : Int32) o45 o2_c339 o31_c339 o9_c385 k2_c339 k31_c339 k9_c385 Tc385.heap n0 O417  gb_o45 gn_o2_c339 gn_o31_c339 gn_o9_c385 ne_o45_o2_c339 ne_o45_o31_c339 ne_o45_o9_c385 nn_o2_c339_o31_c339 ne_o2_c339_o9_c385 ne_o31_c339_o9_c385 f_388 f_389 f_390 f_393 f_395 f_396 f_398 f_399 f_386 f_387) hZ (ww hw 85 rfl) (ww hw 2 rfl) (by decide) (by decide)) qc427a qc427c (g := (mkF m 200 Ls420 [(.int i0), (.int i4), (.int i3), (.ref o45)])) rfl (by rw [hml]; rfl) (Steps.refl _) (argsL := [(.int i3), (.int i4), (.int i0)]) (rest := []) (lenOf pd5 rfl) rfl (by show 2 * 0 + _ ≤ _; exact Nat.le_of_eq rfl) (hb hby at_200) (fun _ _ => ⟨rfl, ec422, (by decide : 13 + 0 ≤ _), (by decide : 72 + 0 ≤ _)⟩)
     dsimp only [Pt.U, Pt.locs, Pt.cells, Pt.slots] at Xc427 lc427 yc427 zc427 stc427 hQc427
     subst lc427 yc427 zc427
     obtain ⟨Nqc427, ec427, hAc427⟩ := hQc427
     have Nc427 := Fr.app Nc422 Nqc427
     rcases hAc427 with ⟨rfl, g428⟩ | ⟨rfl, g429, g430⟩ | ⟨rfl, g431, g432⟩
     ·
      exact (ar7 g428).elim
     ·
      exact (ar8 g430).elim
     ·
      have p433 : ∀ t, St p e below Tc427 (mkF m 203 Ls420 [(.int (1 : Int32))]) t → S0 t := fun t k => p426 t (stc427.trans k)
      have p434 : ∀ t, St p e below Tc427 (mkF m 211 Ls420 [(.int i2), (.int i1), (.int i0), (.ref o45)]) t → S0 t := fun t k => p433 t (by
        refine XS.ifNo Xc427.here hx rfl (hb hby at_203) rfl ((if0 _ _).trans (feq (by decide : ¬ ((1 : Int32) = (0 : Int32)))).1) ?_
        refine XS.aload Xc427.here hx rfl (hb hby at_206) rfl rfl ?_
        refine XS.iloadN Xc427.here hx rfl (hb hby at_208) rfl ?_
        refine XS.iloadN Xc427.here hx rfl (hb hby at_209) rfl ?_
        refine XS.iloadN Xc427.here hx rfl (hb hby at_210) rfl ?_
        exact k)
      obtain ⟨cqc435, kqc435, qc435a, qc435b, qc435c⟩ := isOf hZ ec427 f_388
      obtain ⟨_, _, ⟨Tc435, Lc435, kc435, nc435⟩, -, Xc435, ⟨Lcc435, hQc435, lc435, yc435, zc435⟩, stc435⟩ := Xc427.virtualBack hx (y := M11) (z := M11) hown (mvT hZ (ww hw 81 rfl)) (mvT hZ (ww hw 82 rfl)) (notFace_of_selects (args := #[]) (mvT hZ (ww hw 84 rfl))) (mvT hZ (ww hw 84 rfl)) (mvT hZ (ww hw 83 rfl)) (by decide) (backOf (W := 0) (rm15_14 l Z a0 hw [] i0 i1 i2 i3 i4 i0 (0 : Int32) (0 : Int32) (0 : Int32) (0 : Int32) (0 : Int32) (0 : Int32) (0 : Int32) (0 : Int32) (0 : Int32) o45 o2_c339 o31_c339 o9_c385 k2_c339 k31_c339 k9_c385 Tc385.heap n0 O417  gb_o45 gn_o2_c339 gn_o31_c339 gn_o9_c385 ne_o45_o2_c339 ne_o45_o31_c339 ne_o45_o9_c385 nn_o2_c339_o31_c339 ne_o2_c339_o9_c385 ne_o31_c339_o9_c385 f_388 f_389 f_390 f_393 f_395 f_396 f_398 f_399 f_386 f_387) hZ (ww hw 85 rfl) (ww hw 2 rfl) (by decide) (by decide)) qc435a qc435c (g := (mkF m 211 Ls420 [(.int i2), (.int i1), (.int i0), (.ref o45)])) rfl (by rw [hml]; rfl) (Steps.refl _) (argsL := [(.int i0), (.int i1), (.int i2)]) (rest := []) (lenOf pd5 rfl) rfl (by show 2 * 0 + _ ≤ _; exact Nat.le_of_eq rfl) (hb hby at_211) (fun _ _ => ⟨rfl, ec427, (by decide : 13 + 0 ≤ _), (by decide : 72 + 0 ≤ _)⟩)
      dsimp only [Pt.U, Pt.locs, Pt.cells, Pt.slots] at Xc435 lc435 yc435 zc435 stc435 hQc435
      subst lc435 yc435 zc435
      obtain ⟨Nqc435, ec435, hAc435⟩ := hQc435
      have Nc435 := Fr.app Nc427 Nqc435
      rcases hAc435 with ⟨rfl, g436⟩ | ⟨rfl, g437, g438⟩ | ⟨rfl, g439, g440⟩
      ·
       have p441 : ∀ t, St p e below Tc435 (mkF m 214 Ls420 [(.int (0 : Int32))]) t → S0 t := fun t k => p434 t (stc435.trans k)
       have p442 : ∀ t, St p e below Tc435 (mkF m 216 Ls420 [(.int (own_isz (own_cmp3 i0 i1 i2 i3 i4 i0))), (.int (0 : Int32))]) t → S0 t := fun t k => p441 t (by
         refine XS.iload Xc435.here hx rfl (hb hby at_214) rfl ?_
         exact k)
       by_cases g443 : (0 : Int32) = (own_isz (own_cmp3 i0 i1 i2 i3 i4 i0))
       ·
        have p444 : ∀ t, St p e below Tc435 (mkF m 226 Ls420 []) t → S0 t := fun t k => p442 t (by
          refine XS.icmpNo Xc435.here hx rfl (hb hby at_216) rfl (teq g443).2 ?_
          refine XT.iconstV Xc435.here hx rfl (1 : Int32) (hb hby at_219) (by decide) ?_
          refine XS.goto Xc435.here hx rfl (pc0 := 220) (pc' := 224) rfl (hb hby at_220) (by decide) (by decide) ?_
          refine XS.istore Xc435.here hx rfl (hb hby at_224) rfl (l' := Ls420) rfl ?_
          exact k)
        exact ⟨_, _, Xc435, ec435, Nc435, p444⟩
       ·
        exact (ar9 g436 g443).elim
      ·
       have p445 : ∀ t, St p e below Tc435 (mkF m 214 Ls420 [(.int (0 : Int32))]) t → S0 t := fun t k => p434 t (stc435.trans k)
       have p446 : ∀ t, St p e below Tc435 (mkF m 216 Ls420 [(.int (own_isz (own_cmp3 i0 i1 i2 i3 i4 i0))), (.int (0 : Int32))]) t → S0 t := fun t k => p445 t (by
         refine XS.iload Xc435.here hx rfl (hb hby at_214) rfl ?_
         exact k)
       by_cases g447 : (0 : Int32) = (own_isz (own_cmp3 i0 i1 i2 i3 i4 i0))
       ·
        have p448 : ∀ t, St p e below Tc435 (mkF m 226 Ls420 []) t → S0 t := fun t k => p446 t (by
          refine XS.icmpNo Xc435.here hx rfl (hb hby at_216) rfl (teq g447).2 ?_
          refine XT.iconstV Xc435.here hx rfl (1 : Int32) (hb hby at_219) (by decide) ?_
          refine XS.goto Xc435.here hx rfl (pc0 := 220) (pc' := 224) rfl (hb hby at_220) (by decide) (by decide) ?_
          refine XS.istore Xc435.here hx rfl (hb hby at_224) rfl (l' := Ls420) rfl ?_
          exact k)
        exact ⟨_, _, Xc435, ec435, Nc435, p448⟩
       ·
        exact (ar10 g438 g447).elim
      ·
       have p449 : ∀ t, St p e below Tc435 (mkF m 214 Ls420 [(.int (1 : Int32))]) t → S0 t := fun t k => p434 t (stc435.trans k)
       have p450 : ∀ t, St p e below Tc435 (mkF m 216 Ls420 [(.int (own_isz (own_cmp3 i0 i1 i2 i3 i4 i0))), (.int (1 : Int32))]) t → S0 t := fun t k => p449 t (by
         refine XS.iload Xc435.here hx rfl (hb hby at_214) rfl ?_
         exact k)
       by_cases g451 : (1 : Int32) = (own_isz (own_cmp3 i0 i1 i2 i3 i4 i0))
       ·
        have p452 : ∀ t, St p e below Tc435 (mkF m 226 Ls420 []) t → S0 t := fun t k => p450 t (by
          refine XS.icmpNo Xc435.here hx rfl (hb hby at_216) rfl (teq g451).2 ?_
          refine XT.iconstV Xc435.here hx rfl (1 : Int32) (hb hby at_219) (by decide) ?_
          refine XS.goto Xc435.here hx rfl (pc0 := 220) (pc' := 224) rfl (hb hby at_220) (by decide) (by decide) ?_
          refine XS.istore Xc435.here hx rfl (hb hby at_224) rfl (l' := Ls420) rfl ?_
          exact k)
        exact ⟨_, _, Xc435, ec435, Nc435, p452⟩
       ·
        exact (ar11 g439 g440 g451).elim
    let Ls453 : Array Slot := #[.val (.int i0), .val (.int i1), .val (.int i2), .val (.int i3), .val (.int i4), .val (.int i5), .val (.int w2), .val (.int (1 : Int32)), .val (.int (own_isz (own_cmp3 i0 i1 i2 i3 i4 i0))), .val (.ref o45), .val (.long (1 : Int64)), .second, .val (.ref o14_c309), .val (.int (1 : Int32)), .val (.int (1 : Int32))]
    have p454 : ∀ t, St p e below Tj425 (mkF m 238 Ls453 [(.ref o14_c309)]) t → S0 t := fun t k => pj425 t (by
      refine XS.iload Xj425.here hx rfl (hb hby at_226) rfl ?_
      refine XS.ifNo Xj425.here hx rfl (hb hby at_228) rfl ((if0 _ _).trans (feq (by decide : ¬ ((1 : Int32) = (0 : Int32)))).1) ?_
      refine XS.iload Xj425.here hx rfl (hb hby at_231) rfl ?_
      refine XS.ifNo Xj425.here hx rfl (hb hby at_233) rfl ((if0 _ _).trans (feq (by decide : ¬ ((1 : Int32) = (0 : Int32)))).1) ?_
      refine XS.aload Xj425.here hx rfl (hb hby at_236) rfl rfl ?_
      exact k)
    obtain ⟨cqc455, kqc455, qc455a, qc455b, qc455c⟩ := isOf hZ ej425 E_408
    obtain ⟨_, _, ⟨Tc455, Lc455, kc455, nc455⟩, -, Xc455, ⟨Lcc455, hQc455, lc455, yc455, zc455⟩, stc455⟩ := Xj425.virtualBack hx (y := M10) (z := M10) hown (mvT hZ (ww hw 76 rfl)) (mvT hZ (ww hw 77 rfl)) (notFace_of_selects (args := #[]) (mvT hZ (ww hw 79 rfl))) (mvT hZ (ww hw 79 rfl)) (mvT hZ (ww hw 78 rfl)) (by decide) (backOf (W := 0) (rm14_12 l Z a0 hw [] (1 : Int64) o14_c309 Tc385.heap n0 O417  gn_o14_c309 E_408 F_414) hZ (ww hw 80 rfl) (ww hw 2 rfl) (by decide) (by decide)) qc455a qc455c (g := (mkF m 238 Ls453 [(.ref o14_c309)])) rfl (by rw [hml]; rfl) (Steps.refl _) (argsL := []) (rest := []) (lenOf pd8 rfl) rfl (by show 2 * 0 + _ ≤ _; exact Nat.le_of_eq rfl) (hb hby at_238) (fun _ _ => ⟨rfl, ej425, (by decide : 13 + 0 ≤ _), (by decide : 72 + 0 ≤ _)⟩)
    dsimp only [Pt.U, Pt.locs, Pt.cells, Pt.slots] at Xc455 lc455 yc455 zc455 stc455 hQc455
    subst lc455 yc455 zc455
    obtain ⟨Nqc455, ec455, hAc455⟩ := hQc455
    have Nc455 := Fr.app Nj425 Nqc455
    obtain rfl := hAc455
    have p456 : ∀ t, St p e below Tc455 (mkF m 241 Ls453 [(.long (1 : Int64))]) t → S0 t := fun t k => p454 t (stc455.trans k)
    have p457 : ∀ t, St p e below Tc455 (mkF m 252 Ls453 [(.int i2), (.int i1), (.int i0), (.ref o14_c309)]) t → S0 t := fun t k => p456 t (by
      refine XS.lload Xc455.here hx rfl (hb hby at_241) rfl ?_
      refine XS.lcmp Xc455.here hx rfl (hb hby at_243) rfl ?_
      refine XS.ifNo Xc455.here hx rfl (hb hby at_244) rfl ((if0 _ _).trans (teq (by decide : (0 : Int32) = (0 : Int32))).2) ?_
      refine XS.aload Xc455.here hx rfl (hb hby at_247) rfl rfl ?_
      refine XS.iloadN Xc455.here hx rfl (hb hby at_249) rfl ?_
      show St p e below Tc455 (mkF m 250 Ls453 [(.int i0), (.ref o14_c309)]) t
      refine XS.iloadN Xc455.here hx rfl (hb hby at_250) rfl ?_
      refine XS.iloadN Xc455.here hx rfl (hb hby at_251) rfl ?_
      exact k)
    obtain ⟨cqc458, kqc458, qc458a, qc458b, qc458c⟩ := isOf hZ ec455 E_408
    obtain ⟨_, _, ⟨Tc458, Lc458, kc458, nc458⟩, -, Xc458, ⟨Lcc458, hQc458, lc458, yc458, zc458⟩, stc458⟩ := Xc455.virtualBack hx (y := M11) (z := M11) hown (mvT hZ (ww hw 81 rfl)) (mvT hZ (ww hw 82 rfl)) (notFace_of_selects (args := #[]) (mvT hZ (ww hw 84 rfl))) (mvT hZ (ww hw 84 rfl)) (mvT hZ (ww hw 83 rfl)) (by decide) (backOf (W := 0) (rm15_14 l Z a0 hw [] i0 i1 i2 i0 i1 i2 (0 : Int32) (0 : Int32) (0 : Int32) (0 : Int32) (0 : Int32) (0 : Int32) (0 : Int32) (0 : Int32) (0 : Int32) o14_c309 o5_c57 o34_c57 o9_c77 k5_c57 k34_c57 k9_c77 Tc385.heap n0 O417  gn_o14_c309 gn_o5_c57 gn_o34_c57 gn_o9_c77 (Ne.symm ne_o5_c57_o14_c309) (Ne.symm ne_o34_c57_o14_c309) (Ne.symm ne_o9_c77_o14_c309) nn_o5_c57_o34_c57 ne_o5_c57_o9_c77 ne_o34_c57_o9_c77 E_408 F_409 F_410 F_413 V_404 E_405 V_406 E_407 V_402 E_403) hZ (ww hw 85 rfl) (ww hw 2 rfl) (by decide) (by decide)) qc458a qc458c (g := (mkF m 252 Ls453 [(.int i2), (.int i1), (.int i0), (.ref o14_c309)])) rfl (by rw [hml]; rfl) (Steps.refl _) (argsL := [(.int i0), (.int i1), (.int i2)]) (rest := []) (lenOf pd5 rfl) rfl (by show 2 * 0 + _ ≤ _; exact Nat.le_of_eq rfl) (hb hby at_252) (fun _ _ => ⟨rfl, ec455, (by decide : 13 + 0 ≤ _), (by decide : 72 + 0 ≤ _)⟩)
    dsimp only [Pt.U, Pt.locs, Pt.cells, Pt.slots] at Xc458 lc458 yc458 zc458 stc458 hQc458
    subst lc458 yc458 zc458
    obtain ⟨Nqc458, ec458, hAc458⟩ := hQc458
    have Nc458 := Fr.app Nc455 Nqc458
    rcases hAc458 with ⟨rfl, g459⟩ | ⟨rfl, g460, g461⟩ | ⟨rfl, g462, g463⟩
    ·
     exact (ar7 g459).elim
    ·
     exact (ar8 g461).elim
    ·
     have p464 : ∀ t, St p e below Tc458 (mkF m 255 Ls453 [(.int (1 : Int32))]) t → S0 t := fun t k => p457 t (stc458.trans k)
     have p465 : ∀ t, St p e below Tc458 (mkF m 264 Ls453 [(.int i0), (.int i4), (.int i3), (.ref o14_c309)]) t → S0 t := fun t k => p464 t (by
       refine XS.ifNo Xc458.here hx rfl (hb hby at_255) rfl ((if0 _ _).trans (feq (by decide : ¬ ((1 : Int32) = (0 : Int32)))).1) ?_
       refine XS.aload Xc458.here hx rfl (hb hby at_258) rfl rfl ?_
       refine XS.iloadN Xc458.here hx rfl (hb hby at_260) rfl ?_
       refine XS.iload Xc458.here hx rfl (hb hby at_261) rfl ?_
       refine XS.iloadN Xc458.here hx rfl (hb hby at_263) rfl ?_
       exact k)
     obtain ⟨cqc466, kqc466, qc466a, qc466b, qc466c⟩ := isOf hZ ec458 E_408
     obtain ⟨_, _, ⟨Tc466, Lc466, kc466, nc466⟩, -, Xc466, ⟨Lcc466, hQc466, lc466, yc466, zc466⟩, stc466⟩ := Xc458.virtualBack hx (y := M11) (z := M11) hown (mvT hZ (ww hw 81 rfl)) (mvT hZ (ww hw 82 rfl)) (notFace_of_selects (args := #[]) (mvT hZ (ww hw 84 rfl))) (mvT hZ (ww hw 84 rfl)) (mvT hZ (ww hw 83 rfl)) (by decide) (backOf (W := 0) (rm15_14 l Z a0 hw [] i3 i4 i0 i0 i1 i2 (0 : Int32) (0 : Int32) (0 : Int32) (0 : Int32) (0 : Int32) (0 : Int32) (0 : Int32) (0 : Int32) (0 : Int32) o14_c309 o5_c57 o34_c57 o9_c77 k5_c57 k34_c57 k9_c77 Tc385.heap n0 O417  gn_o14_c309 gn_o5_c57 gn_o34_c57 gn_o9_c77 (Ne.symm ne_o5_c57_o14_c309) (Ne.symm ne_o34_c57_o14_c309) (Ne.symm ne_o9_c77_o14_c309) nn_o5_c57_o34_c57 ne_o5_c57_o9_c77 ne_o34_c57_o9_c77 E_408 F_409 F_410 F_413 V_404 E_405 V_406 E_407 V_402 E_403) hZ (ww hw 85 rfl) (ww hw 2 rfl) (by decide) (by decide)) qc466a qc466c (g := (mkF m 264 Ls453 [(.int i0), (.int i4), (.int i3), (.ref o14_c309)])) rfl (by rw [hml]; rfl) (Steps.refl _) (argsL := [(.int i3), (.int i4), (.int i0)]) (rest := []) (lenOf pd5 rfl) rfl (by show 2 * 0 + _ ≤ _; exact Nat.le_of_eq rfl) (hb hby at_264) (fun _ _ => ⟨rfl, ec458, (by decide : 13 + 0 ≤ _), (by decide : 72 + 0 ≤ _)⟩)
     dsimp only [Pt.U, Pt.locs, Pt.cells, Pt.slots] at Xc466 lc466 yc466 zc466 stc466 hQc466
     subst lc466 yc466 zc466
     obtain ⟨Nqc466, ec466, hAc466⟩ := hQc466
     have Nc466 := Fr.app Nc458 Nqc466
     rcases hAc466 with ⟨rfl, g467⟩ | ⟨rfl, g468, g469⟩ | ⟨rfl, g470, g471⟩
     ·
      have p472 : ∀ t, St p e below Tc466 (mkF m 267 Ls453 [(.int (0 : Int32))]) t → S0 t := fun t k => p465 t (stc466.trans k)
      have p473 : ∀ t, St p e below Tc466 (mkF m 274 Ls453 [(.int (own_isz (own_cmp3 i0 i1 i2 i3 i4 i0))), (.int (0 : Int32))]) t → S0 t := fun t k => p472 t (by
        refine XS.iload Xc466.here hx rfl (hb hby at_267) rfl ?_
        refine XS.ifNo Xc466.here hx rfl (hb hby at_269) rfl ((if0 _ _).trans (teq g305).2) ?_
        refine XS.iload Xc466.here hx rfl (hb hby at_272) rfl ?_
        exact k)
      by_cases g474 : (own_isz (own_cmp3 i0 i1 i2 i3 i4 i0)) = (0 : Int32)
      ·
       have p475 : ∀ t, St p e below Tc466 (mkF m 294 Ls453 [(.int (1 : Int32))]) t → S0 t := fun t k => p473 t (by
         refine XS.ifYes Xc466.here hx rfl (pc0 := 274) (pc' := 281) rfl (hb hby at_274) rfl ((if0 _ _).trans (teq g474).1) (by decide) (by decide) ?_
         refine XT.iconstV Xc466.here hx rfl (0 : Int32) (hb hby at_281) (by decide) ?_
         refine XS.icmpNo Xc466.here hx rfl (hb hby at_282) rfl (teq (by decide : (0 : Int32) = (0 : Int32))).2 ?_
         refine XT.iconstV Xc466.here hx rfl (1 : Int32) (hb hby at_285) (by decide) ?_
         refine XS.goto Xc466.here hx rfl (pc0 := 286) (pc' := 290) rfl (hb hby at_286) (by decide) (by decide) ?_
         show St p e below Tc466 (mkF m 290 Ls453 [(.int (1 : Int32))]) t
         refine XS.istore Xc466.here hx rfl (hb hby at_290) rfl (l' := Ls453) rfl ?_
         refine XS.iload Xc466.here hx rfl (hb hby at_292) rfl ?_
         exact k)
       obtain ⟨fs, hr, hrun, hended, hW, hsame⟩ := Xc466.leave (v := some (.int (1 : Int32))) (fun h => by rw [Bd.returns] at h; cases h)
       refine ⟨_, _, p475 _ ?_, hrun, hended, _, _, rfl, ?_, ⟨_, rfl⟩, hW, hsame.mono (by decide) (by decide)⟩
       · exact retOut Xc466 hx Bd.returns rfl (Or.inl ⟨rfl, by simp, _, rfl⟩) (hb hby at_294) hr
       · exact ⟨rfl, Nc466⟩
      ·
       exact (ar4 g467 g474).elim
     ·
      have p476 : ∀ t, St p e below Tc466 (mkF m 267 Ls453 [(.int (0 : Int32))]) t → S0 t := fun t k => p465 t (stc466.trans k)
      have p477 : ∀ t, St p e below Tc466 (mkF m 274 Ls453 [(.int (own_isz (own_cmp3 i0 i1 i2 i3 i4 i0))), (.int (0 : Int32))]) t → S0 t := fun t k => p476 t (by
        refine XS.iload Xc466.here hx rfl (hb hby at_267) rfl ?_
        refine XS.ifNo Xc466.here hx rfl (hb hby at_269) rfl ((if0 _ _).trans (teq g305).2) ?_
        refine XS.iload Xc466.here hx rfl (hb hby at_272) rfl ?_
        exact k)
      by_cases g478 : (own_isz (own_cmp3 i0 i1 i2 i3 i4 i0)) = (0 : Int32)
      ·
       have p479 : ∀ t, St p e below Tc466 (mkF m 294 Ls453 [(.int (1 : Int32))]) t → S0 t := fun t k => p477 t (by
         refine XS.ifYes Xc466.here hx rfl (pc0 := 274) (pc' := 281) rfl (hb hby at_274) rfl ((if0 _ _).trans (teq g478).1) (by decide) (by decide) ?_
         refine XT.iconstV Xc466.here hx rfl (0 : Int32) (hb hby at_281) (by decide) ?_
         refine XS.icmpNo Xc466.here hx rfl (hb hby at_282) rfl (teq (by decide : (0 : Int32) = (0 : Int32))).2 ?_
         refine XT.iconstV Xc466.here hx rfl (1 : Int32) (hb hby at_285) (by decide) ?_
         refine XS.goto Xc466.here hx rfl (pc0 := 286) (pc' := 290) rfl (hb hby at_286) (by decide) (by decide) ?_
         show St p e below Tc466 (mkF m 290 Ls453 [(.int (1 : Int32))]) t
         refine XS.istore Xc466.here hx rfl (hb hby at_290) rfl (l' := Ls453) rfl ?_
         refine XS.iload Xc466.here hx rfl (hb hby at_292) rfl ?_
         exact k)
       obtain ⟨fs, hr, hrun, hended, hW, hsame⟩ := Xc466.leave (v := some (.int (1 : Int32))) (fun h => by rw [Bd.returns] at h; cases h)
       refine ⟨_, _, p479 _ ?_, hrun, hended, _, _, rfl, ?_, ⟨_, rfl⟩, hW, hsame.mono (by decide) (by decide)⟩
       · exact retOut Xc466 hx Bd.returns rfl (Or.inl ⟨rfl, by simp, _, rfl⟩) (hb hby at_294) hr
       · exact ⟨rfl, Nc466⟩
      ·
       exact (ar5 g469 g478).elim
     ·
      have p480 : ∀ t, St p e below Tc466 (mkF m 267 Ls453 [(.int (1 : Int32))]) t → S0 t := fun t k => p465 t (stc466.trans k)
      have p481 : ∀ t, St p e below Tc466 (mkF m 274 Ls453 [(.int (own_isz (own_cmp3 i0 i1 i2 i3 i4 i0))), (.int (1 : Int32))]) t → S0 t := fun t k => p480 t (by
        refine XS.iload Xc466.here hx rfl (hb hby at_267) rfl ?_
        refine XS.ifNo Xc466.here hx rfl (hb hby at_269) rfl ((if0 _ _).trans (teq g305).2) ?_
        refine XS.iload Xc466.here hx rfl (hb hby at_272) rfl ?_
        exact k)
      by_cases g482 : (own_isz (own_cmp3 i0 i1 i2 i3 i4 i0)) = (0 : Int32)
      ·
       exact (ar6 g470 g471 g482).elim
      ·
       have p483 : ∀ t, St p e below Tc466 (mkF m 294 Ls453 [(.int (1 : Int32))]) t → S0 t := fun t k => p481 t (by
         refine XS.ifNo Xc466.here hx rfl (hb hby at_274) rfl ((if0 _ _).trans (feq g482).1) ?_
         refine XT.iconstV Xc466.here hx rfl (1 : Int32) (hb hby at_277) (by decide) ?_
         refine XS.goto Xc466.here hx rfl (pc0 := 278) (pc' := 282) rfl (hb hby at_278) (by decide) (by decide) ?_
         refine XS.icmpNo Xc466.here hx rfl (hb hby at_282) rfl (teq (by decide : (1 : Int32) = (1 : Int32))).2 ?_
         refine XT.iconstV Xc466.here hx rfl (1 : Int32) (hb hby at_285) (by decide) ?_
         show St p e below Tc466 (mkF m 286 Ls453 [(.int (1 : Int32))]) t
         refine XS.goto Xc466.here hx rfl (pc0 := 286) (pc' := 290) rfl (hb hby at_286) (by decide) (by decide) ?_
         refine XS.istore Xc466.here hx rfl (hb hby at_290) rfl (l' := Ls453) rfl ?_
         refine XS.iload Xc466.here hx rfl (hb hby at_292) rfl ?_
         exact k)
       obtain ⟨fs, hr, hrun, hended, hW, hsame⟩ := Xc466.leave (v := some (.int (1 : Int32))) (fun h => by rw [Bd.returns] at h; cases h)
       refine ⟨_, _, p483 _ ?_, hrun, hended, _, _, rfl, ?_, ⟨_, rfl⟩, hW, hsame.mono (by decide) (by decide)⟩
       · exact retOut Xc466 hx Bd.returns rfl (Or.inl ⟨rfl, by simp, _, rfl⟩) (hb hby at_294) hr
       · exact ⟨rfl, Nc466⟩
   ·
    have p484 : ∀ t, St p e below Tc77 (mkF m 80 Ls303 [(.int i0), (.int i4), (.int i3), (.ref o45)]) t → S0 t := fun t k => p304 t (by
      refine XS.ifNo Xc77.here hx rfl (hb hby at_71) rfl ((if0 _ _).trans (feq g305).1) ?_
      refine XS.aload Xc77.here hx rfl (hb hby at_74) rfl rfl ?_
      refine XS.iloadN Xc77.here hx rfl (hb hby at_76) rfl ?_
      refine XS.iload Xc77.here hx rfl (hb hby at_77) rfl ?_
      refine XS.iloadN Xc77.here hx rfl (hb hby at_79) rfl ?_
      exact k)
    obtain ⟨cqc485, kqc485, qc485a, qc485b, qc485c⟩ := isOf hZ rfl f_80
    obtain ⟨_, _, ⟨Tc485, Lc485, kc485, nc485⟩, -, Xc485, ⟨Lcc485, hQc485, lc485, yc485, zc485⟩, stc485⟩ := Xc77.virtualBack hx (y := M6) (z := M6) hown (mvT hZ (ww hw 19 rfl)) (mvT hZ (ww hw 20 rfl)) (notFace_of_selects (args := #[]) (mvT hZ (ww hw 22 rfl))) (mvT hZ (ww hw 22 rfl)) (mvT hZ (ww hw 21 rfl)) (by decide) (backOf (W := 0) (rm3_7 l Z a0 hw [] i3 i4 i0 i1 i2 o45 o5_c57 o34_c57 o66_c57 o9_c77 k5_c57 k34_c57 k66_c57 k9_c77 Tc77.heap n0 O94  gb_o45 gn_o5_c57 gn_o34_c57 gn_o66_c57 gn_o9_c77 ne_o45_o5_c57 ne_o45_o34_c57 ne_o45_o66_c57 ne_o45_o9_c77 nn_o5_c57_o34_c57 nn_o5_c57_o66_c57 ne_o5_c57_o9_c77 nn_o34_c57_o66_c57 ne_o34_c57_o9_c77 ne_o66_c57_o9_c77 f_80 f_81 f_82 f_83 f_84 f_85 f_86 f_87 f_88 f_89 f_90 f_91 f_92 f_93 f_78 f_79) hZ (ww hw 23 rfl) (ww hw 2 rfl) (by decide) (by decide)) qc485a qc485c (g := (mkF m 80 Ls303 [(.int i0), (.int i4), (.int i3), (.ref o45)])) rfl (by rw [hml]; rfl) (Steps.refl _) (argsL := [(.int i3), (.int i4), (.int i0)]) (rest := []) (lenOf pd5 rfl) rfl (by show 2 * 0 + _ ≤ _; exact Nat.le_of_eq rfl) (hb hby at_80) (fun _ _ => ⟨rfl, rfl, (by decide : 5 + 0 ≤ _), (by decide : 30 + 0 ≤ _)⟩)
    dsimp only [Pt.U, Pt.locs, Pt.cells, Pt.slots] at Xc485 lc485 yc485 zc485 stc485 hQc485
    subst lc485 yc485 zc485
    obtain ⟨Nqc485, hAc485⟩ := hQc485
    have Nc485 := Fr.app Nc77 Nqc485
    rcases hAc485 with ⟨rfl, Kcc485, f_487, f_488, f_489, f_490, f_491, f_492, f_493, f_494, f_495, f_496, f_497, g486⟩ | ⟨rfl, Kcc485, f_500, f_501, f_502, f_503, f_504, f_505, f_506, f_507, f_508, f_509, f_510, g498, g499⟩ | ⟨rfl, Kcc485, f_513, f_514, f_515, f_516, f_517, f_518, f_519, f_520, f_521, f_522, f_523, g511, g512⟩
    ·
     have V_524 := f_87.keep Kcc485 (ninS ne_o5_c57_o9_c77 (ninS nn_o5_c57_o34_c57 (ninS (Ne.symm ne_o45_o5_c57) nin0)))
     have E_525 := f_88.keep Kcc485
     have V_526 := f_92.keep Kcc485 (ninS ne_o66_c57_o9_c77 (ninS (Ne.symm nn_o34_c57_o66_c57) (ninS (Ne.symm ne_o45_o66_c57) nin0)))
     have E_527 := f_93.keep Kcc485
     have O528 := O94.keep Kcc485 (allS gn_o9_c77 (allS gn_o34_c57 (allS gb_o45 all0)))
     have K529 := Keep.trans K95 Kcc485 (allS (Or.inr sz_o9_c77) (allS (Or.inr sz_o34_c57) (allS (Or.inr sz_o45) all0)))
     have p530 : ∀ t, St p e below Tc485 (mkF m 83 Ls303 [(.int (1 : Int32))]) t → S0 t := fun t k => p484 t (stc485.trans k)
     have p531 : ∀ t, St p e below Tc485 (mkF m 91 Ls303 [(.int (own_isz (own_cmp3 i0 i1 i2 i3 i4 i0)))]) t → S0 t := fun t k => p530 t (by
       refine XS.pop Xc485.here hx rfl (hb hby at_83) rfl rfl ?_
       refine XS.iload Xc485.here hx rfl (hb hby at_84) rfl ?_
       refine XS.ifNo Xc485.here hx rfl (hb hby at_86) rfl ((if0 _ _).trans (feq g305).1) ?_
       refine XS.iload Xc485.here hx rfl (hb hby at_89) rfl ?_
       exact k)
     by_cases g532 : (own_isz (own_cmp3 i0 i1 i2 i3 i4 i0)) = (0 : Int32)
     ·
      let Ls533 : Array Slot := #[.val (.int i0), .val (.int i1), .val (.int i2), .val (.int i3), .val (.int i4), .val (.int i5), .val (.int w2), .val (.int (1 : Int32)), .val (.int (own_isz (own_cmp3 i0 i1 i2 i3 i4 i0))), .val (.ref o45), .val (.long (2 : Int64)), .second, .unset, .unset, .unset]
      let Ls534 : Array Slot := #[.val (.int i0), .val (.int i1), .val (.int i2), .val (.int i3), .val (.int i4), .val (.int i5), .val (.int w2), .val (.int (1 : Int32)), .val (.int (own_isz (own_cmp3 i0 i1 i2 i3 i4 i0))), .val (.ref o45), .val (.long (2 : Int64)), .second, .val .null, .unset, .unset]
      have p535 : ∀ t, St p e below Tc485 (mkF m 113 Ls534 [(.ref o45)]) t → S0 t := fun t k => p531 t (by
        refine XS.ifNo Xc485.here hx rfl (hb hby at_91) rfl ((if0 _ _).trans (teq g532).2) ?_
        refine Xc485.ldc2J hx hown (mvT hZ (ww hw 61 rfl)) rfl (hb hby at_94) ?_
        refine XS.goto Xc485.here hx rfl (pc0 := 97) (pc' := 101) rfl (hb hby at_97) (by decide) (by decide) ?_
        refine XS.lstore Xc485.here hx rfl (hb hby at_101) rfl (l' := Ls533) rfl ?_
        refine XS.aconstNull Xc485.here hx rfl (hb hby at_103) ?_
        show St p e below Tc485 (mkF m 104 Ls533 [.null]) t
        refine XS.astore Xc485.here hx rfl (hb hby at_104) rfl rfl (l' := Ls534) rfl ?_
        refine XS.iload Xc485.here hx rfl (hb hby at_106) rfl ?_
        refine XS.ifNo Xc485.here hx rfl (hb hby at_108) rfl ((if0 _ _).trans (feq (by decide : ¬ ((1 : Int32) = (0 : Int32)))).1) ?_
        refine XS.aload Xc485.here hx rfl (hb hby at_111) rfl rfl ?_
        exact k)
      obtain ⟨cqc536, kqc536, qc536a, qc536b, qc536c⟩ := isOf hZ rfl f_487
      obtain ⟨_, _, ⟨Tc536, Lc536, kc536, nc536⟩, -, Xc536, ⟨Lcc536, hQc536, lc536, yc536, zc536⟩, stc536⟩ := Xc485.virtualBack hx (y := M13) (z := M13) hown (mvT hZ (ww hw 62 rfl)) (mvT hZ (ww hw 63 rfl)) (notFace_of_selects (args := #[]) (mvT hZ (ww hw 65 rfl))) (mvT hZ (ww hw 65 rfl)) (mvT hZ (ww hw 64 rfl)) (by decide) (backOf (W := 0) (rm11_15 l Z a0 hw [] (0 : Int32) (1 : Int32) (2 : Int64) o45 o5_c57 o34_c57 o66_c57 Tc485.heap n0 O528  gb_o45 gn_o5_c57 gn_o34_c57 gn_o66_c57 ne_o45_o5_c57 ne_o45_o34_c57 ne_o45_o66_c57 nn_o5_c57_o34_c57 nn_o5_c57_o66_c57 nn_o34_c57_o66_c57 f_487 f_488 f_489 f_490 f_491 f_492 f_493) hZ (ww hw 66 rfl) (ww hw 2 rfl) (by decide) (by decide)) qc536a qc536c (g := (mkF m 113 Ls534 [(.ref o45)])) rfl (by rw [hml]; rfl) (Steps.refl _) (argsL := []) (rest := []) (lenOf pd10 rfl) rfl (by show 2 * 0 + _ ≤ _; exact Nat.le_of_eq rfl) (hb hby at_113) (fun _ _ => ⟨rfl, rfl, (by decide : 5 + 4 ≤ _), (by decide : 30 + 18 ≤ _)⟩)
      dsimp only [Pt.U, Pt.locs, Pt.cells, Pt.slots] at Xc536 lc536 yc536 zc536 stc536 hQc536
      subst lc536 yc536 zc536
      obtain ⟨Nqc536, hAc536⟩ := hQc536
      have Nc536 := Fr.app Nc485 Nqc536
      obtain ⟨o14_c536, o67_c44_c536, k67_c44_c536, rfl, Kcc536, gn_o14_c536, zn_o14_c536, gn_o67_c44_c536, zn_o67_c44_c536, nn_o14_c536_o67_c44_c536, f_537, f_538, f_539, f_540, f_541, f_542, f_543, f_544, f_545, f_546, f_547, f_548, f_549, f_550, f_551, f_552⟩ := hAc536
      have ne_o5_c57_o14_c536 : o5_c57 ≠ o14_c536 := Nat.ne_of_lt (Nat.lt_of_lt_of_le V_524.lt zn_o14_c536)
      have ne_o66_c57_o14_c536 : o66_c57 ≠ o14_c536 := Nat.ne_of_lt (Nat.lt_of_lt_of_le V_526.lt zn_o14_c536)
      have ne_o45_o14_c536 : o45 ≠ o14_c536 := Nat.ne_of_lt (Nat.lt_of_lt_of_le f_487.lt zn_o14_c536)
      have ne_o34_c57_o14_c536 : o34_c57 ≠ o14_c536 := Nat.ne_of_lt (Nat.lt_of_lt_of_le f_494.lt zn_o14_c536)
      have ne_o9_c77_o14_c536 : o9_c77 ≠ o14_c536 := Nat.ne_of_lt (Nat.lt_of_lt_of_le f_496.lt zn_o14_c536)
      have ne_o5_c57_o67_c44_c536 : o5_c57 ≠ o67_c44_c536 := Nat.ne_of_lt (Nat.lt_of_lt_of_le V_524.lt zn_o67_c44_c536)
      have ne_o66_c57_o67_c44_c536 : o66_c57 ≠ o67_c44_c536 := Nat.ne_of_lt (Nat.lt_of_lt_of_le V_526.lt zn_o67_c44_c536)
      have ne_o45_o67_c44_c536 : o45 ≠ o67_c44_c536 := Nat.ne_of_lt (Nat.lt_of_lt_of_le f_487.lt zn_o67_c44_c536)
      have ne_o34_c57_o67_c44_c536 : o34_c57 ≠ o67_c44_c536 := Nat.ne_of_lt (Nat.lt_of_lt_of_le f_494.lt zn_o67_c44_c536)
      have ne_o9_c77_o67_c44_c536 : o9_c77 ≠ o67_c44_c536 := Nat.ne_of_lt (Nat.lt_of_lt_of_le f_496.lt zn_o67_c44_c536)
      have sz_o14_c536 : h0.size ≤ o14_c536 := Nat.le_trans (K529).1 zn_o14_c536
      have sz_o67_c44_c536 : h0.size ≤ o67_c44_c536 := Nat.le_trans (K529).1 zn_o67_c44_c536
      have V_553 := V_524.keep Kcc536 (ninS (Ne.symm ne_o45_o5_c57) nin0)
      have E_554 := E_525.keep Kcc536
      have V_555 := V_526.keep Kcc536 (ninS (Ne.symm ne_o45_o66_c57) nin0)
      have E_556 := E_527.keep Kcc536
      have V_557 := f_494.keep Kcc536 (ninS (Ne.symm ne_o45_o34_c57) nin0)
      have E_558 := f_495.keep Kcc536
      have V_559 := f_496.keep Kcc536 (ninS (Ne.symm ne_o45_o9_c77) nin0)
      have E_560 := f_497.keep Kcc536
      have O561 := O528.keep Kcc536 (allS gb_o45 all0)
      have K562 := Keep.trans K529 Kcc536 (allS (Or.inr sz_o45) all0)
      have p563 : ∀ t, St p e below Tc536 (mkF m 116 Ls534 [(.ref o14_c536)]) t → S0 t := fun t k => p535 t (stc536.trans k)
      let Ls564 : Array Slot := #[.val (.int i0), .val (.int i1), .val (.int i2), .val (.int i3), .val (.int i4), .val (.int i5), .val (.int w2), .val (.int (1 : Int32)), .val (.int (own_isz (own_cmp3 i0 i1 i2 i3 i4 i0))), .val (.ref o45), .val (.long (2 : Int64)), .second, .val (.ref o14_c536), .unset, .unset]
      have p565 : ∀ t, St p e below Tc536 (mkF m 120 Ls564 [(.ref o45)]) t → S0 t := fun t k => p563 t (by
        refine XS.astore Xc536.here hx rfl (hb hby at_116) rfl rfl (l' := Ls564) rfl ?_
        refine XS.aload Xc536.here hx rfl (hb hby at_118) rfl rfl ?_
        exact k)
      obtain ⟨cqc566, kqc566, qc566a, qc566b, qc566c⟩ := isOf hZ rfl f_537
      obtain ⟨_, _, ⟨Tc566, Lc566, kc566, nc566⟩, -, Xc566, ⟨Lcc566, hQc566, lc566, yc566, zc566⟩, stc566⟩ := Xc536.virtualBack hx (y := M9) (z := M9) hown (mvT hZ (ww hw 71 rfl)) (mvT hZ (ww hw 72 rfl)) (notFace_of_selects (args := #[]) (mvT hZ (ww hw 74 rfl))) (mvT hZ (ww hw 74 rfl)) (mvT hZ (ww hw 73 rfl)) (by decide) (backOf (W := 0) (rm13_11 l Z a0 hw [] (1 : Int32) (1 : Int32) (2 : Int64) o45 o5_c57 o34_c57 o66_c57 Tc536.heap n0 O561  gb_o45 gn_o5_c57 gn_o34_c57 gn_o66_c57 ne_o45_o5_c57 ne_o45_o34_c57 ne_o45_o66_c57 nn_o5_c57_o34_c57 nn_o5_c57_o66_c57 nn_o34_c57_o66_c57 f_537 f_538 f_539 f_540 f_541 f_542 f_543) hZ (ww hw 75 rfl) (ww hw 2 rfl) (by decide) (by decide)) qc566a qc566c (g := (mkF m 120 Ls564 [(.ref o45)])) rfl (by rw [hml]; rfl) (Steps.refl _) (argsL := []) (rest := []) (lenOf pd0 rfl) rfl (by show 2 * 0 + _ ≤ _; exact Nat.le_of_eq rfl) (hb hby at_120) (fun _ _ => ⟨rfl, rfl, (by decide : 9 + 3 ≤ _), (by decide : 48 + 12 ≤ _)⟩)
      dsimp only [Pt.U, Pt.locs, Pt.cells, Pt.slots] at Xc566 lc566 yc566 zc566 stc566 hQc566
      subst lc566 yc566 zc566
      obtain ⟨Nqc566, hAc566⟩ := hQc566
      have Nc566 := Fr.app Nc536 Nqc566
      obtain ⟨o2_c566, o31_c566, o63_c566, k2_c566, k31_c566, k63_c566, rfl, Kcc566, gn_o2_c566, zn_o2_c566, gn_o31_c566, zn_o31_c566, gn_o63_c566, zn_o63_c566, nn_o2_c566_o31_c566, nn_o2_c566_o63_c566, nn_o31_c566_o63_c566, f_567, f_568, f_569, f_570, f_571, f_572, f_573, f_574, f_575, f_576, f_577, f_578, f_579, f_580⟩ := hAc566
      have ne_o5_c57_o2_c566 : o5_c57 ≠ o2_c566 := Nat.ne_of_lt (Nat.lt_of_lt_of_le V_553.lt zn_o2_c566)
      have ne_o66_c57_o2_c566 : o66_c57 ≠ o2_c566 := Nat.ne_of_lt (Nat.lt_of_lt_of_le V_555.lt zn_o2_c566)
      have ne_o34_c57_o2_c566 : o34_c57 ≠ o2_c566 := Nat.ne_of_lt (Nat.lt_of_lt_of_le V_557.lt zn_o2_c566)
      have ne_o9_c77_o2_c566 : o9_c77 ≠ o2_c566 := Nat.ne_of_lt (Nat.lt_of_lt_of_le V_559.lt zn_o2_c566)
      have ne_o45_o2_c566 : o45 ≠ o2_c566 := Nat.ne_of_lt (Nat.lt_of_lt_of_le f_537.lt zn_o2_c566)
      have ne_o14_c536_o2_c566 : o14_c536 ≠ o2_c566 := Nat.ne_of_lt (Nat.lt_of_lt_of_le f_544.lt zn_o2_c566)
      have ne_o67_c44_c536_o2_c566 : o67_c44_c536 ≠ o2_c566 := Nat.ne_of_lt (Nat.lt_of_lt_of_le f_551.lt zn_o2_c566)
      have ne_o5_c57_o31_c566 : o5_c57 ≠ o31_c566 := Nat.ne_of_lt (Nat.lt_of_lt_of_le V_553.lt zn_o31_c566)
      have ne_o66_c57_o31_c566 : o66_c57 ≠ o31_c566 := Nat.ne_of_lt (Nat.lt_of_lt_of_le V_555.lt zn_o31_c566)
      have ne_o34_c57_o31_c566 : o34_c57 ≠ o31_c566 := Nat.ne_of_lt (Nat.lt_of_lt_of_le V_557.lt zn_o31_c566)
      have ne_o9_c77_o31_c566 : o9_c77 ≠ o31_c566 := Nat.ne_of_lt (Nat.lt_of_lt_of_le V_559.lt zn_o31_c566)
      have ne_o45_o31_c566 : o45 ≠ o31_c566 := Nat.ne_of_lt (Nat.lt_of_lt_of_le f_537.lt zn_o31_c566)
      have ne_o14_c536_o31_c566 : o14_c536 ≠ o31_c566 := Nat.ne_of_lt (Nat.lt_of_lt_of_le f_544.lt zn_o31_c566)
      have ne_o67_c44_c536_o31_c566 : o67_c44_c536 ≠ o31_c566 := Nat.ne_of_lt (Nat.lt_of_lt_of_le f_551.lt zn_o31_c566)
      have ne_o5_c57_o63_c566 : o5_c57 ≠ o63_c566 := Nat.ne_of_lt (Nat.lt_of_lt_of_le V_553.lt zn_o63_c566)
      have ne_o66_c57_o63_c566 : o66_c57 ≠ o63_c566 := Nat.ne_of_lt (Nat.lt_of_lt_of_le V_555.lt zn_o63_c566)
      have ne_o34_c57_o63_c566 : o34_c57 ≠ o63_c566 := Nat.ne_of_lt (Nat.lt_of_lt_of_le V_557.lt zn_o63_c566)
      have ne_o9_c77_o63_c566 : o9_c77 ≠ o63_c566 := Nat.ne_of_lt (Nat.lt_of_lt_of_le V_559.lt zn_o63_c566)
      have ne_o45_o63_c566 : o45 ≠ o63_c566 := Nat.ne_of_lt (Nat.lt_of_lt_of_le f_537.lt zn_o63_c566)
      have ne_o14_c536_o63_c566 : o14_c536 ≠ o63_c566 := Nat.ne_of_lt (Nat.lt_of_lt_of_le f_544.lt zn_o63_c566)
      have ne_o67_c44_c536_o63_c566 : o67_c44_c536 ≠ o63_c566 := Nat.ne_of_lt (Nat.lt_of_lt_of_le f_551.lt zn_o63_c566)
      have sz_o2_c566 : h0.size ≤ o2_c566 := Nat.le_trans (K562).1 zn_o2_c566
      have sz_o31_c566 : h0.size ≤ o31_c566 := Nat.le_trans (K562).1 zn_o31_c566
      have sz_o63_c566 : h0.size ≤ o63_c566 := Nat.le_trans (K562).1 zn_o63_c566
      have V_581 := V_553.keep Kcc566 (ninS (Ne.symm ne_o45_o5_c57) nin0)
      have E_582 := E_554.keep Kcc566
      have V_583 := V_555.keep Kcc566 (ninS (Ne.symm ne_o45_o66_c57) nin0)
      have E_584 := E_556.keep Kcc566
      have V_585 := V_557.keep Kcc566 (ninS (Ne.symm ne_o45_o34_c57) nin0)
      have E_586 := E_558.keep Kcc566
      have V_587 := V_559.keep Kcc566 (ninS (Ne.symm ne_o45_o9_c77) nin0)
      have E_588 := E_560.keep Kcc566
      have E_589 := f_544.keep Kcc566
      have F_590 := f_545.keep Kcc566 (ninS (Ne.symm ne_o45_o14_c536) nin0)
      have F_591 := f_546.keep Kcc566 (ninS (Ne.symm ne_o45_o14_c536) nin0)
      have F_592 := f_547.keep Kcc566 (ninS (Ne.symm ne_o45_o14_c536) nin0)
      have F_593 := f_548.keep Kcc566 (ninS (Ne.symm ne_o45_o14_c536) nin0)
      have F_594 := f_549.keep Kcc566 (ninS (Ne.symm ne_o45_o14_c536) nin0)
      have F_595 := f_550.keep Kcc566 (ninS (Ne.symm ne_o45_o14_c536) nin0)
      have V_596 := f_551.keep Kcc566 (ninS (Ne.symm ne_o45_o67_c44_c536) nin0)
      have E_597 := f_552.keep Kcc566
      have O598 := O561.keep Kcc566 (allS gb_o45 all0)
      have K599 := Keep.trans K562 Kcc566 (allS (Or.inr sz_o45) all0)
      have p600 : ∀ t, St p e below Tc566 (mkF m 123 Ls564 []) t → S0 t := fun t k => p565 t (stc566.trans k)
      have p601 : ∀ t, St p e below Tc566 (mkF m 125 Ls564 [(.ref o45)]) t → S0 t := fun t k => p600 t (by
        refine XS.aload Xc566.here hx rfl (hb hby at_123) rfl rfl ?_
        exact k)
      obtain ⟨cqc602, kqc602, qc602a, qc602b, qc602c⟩ := isOf hZ rfl f_567
      obtain ⟨_, _, ⟨Tc602, Lc602, kc602, nc602⟩, -, Xc602, ⟨Lcc602, hQc602, lc602, yc602, zc602⟩, stc602⟩ := Xc566.virtualBack hx (y := M10) (z := M10) hown (mvT hZ (ww hw 76 rfl)) (mvT hZ (ww hw 77 rfl)) (notFace_of_selects (args := #[]) (mvT hZ (ww hw 79 rfl))) (mvT hZ (ww hw 79 rfl)) (mvT hZ (ww hw 78 rfl)) (by decide) (backOf (W := 0) (rm14_12 l Z a0 hw [] (0 : Int64) o45 Tc566.heap n0 O598  gb_o45 f_567 f_573) hZ (ww hw 80 rfl) (ww hw 2 rfl) (by decide) (by decide)) qc602a qc602c (g := (mkF m 125 Ls564 [(.ref o45)])) rfl (by rw [hml]; rfl) (Steps.refl _) (argsL := []) (rest := []) (lenOf pd8 rfl) rfl (by show 2 * 0 + _ ≤ _; exact Nat.le_of_eq rfl) (hb hby at_125) (fun _ _ => ⟨rfl, rfl, (by decide : 12 + 0 ≤ _), (by decide : 60 + 0 ≤ _)⟩)
      dsimp only [Pt.U, Pt.locs, Pt.cells, Pt.slots] at Xc602 lc602 yc602 zc602 stc602 hQc602
      subst lc602 yc602 zc602
      obtain ⟨Nqc602, ec602, hAc602⟩ := hQc602
      have Nc602 := Fr.app Nc566 Nqc602
      obtain rfl := hAc602
      have p603 : ∀ t, St p e below Tc602 (mkF m 128 Ls564 [(.long (0 : Int64))]) t → S0 t := fun t k => p601 t (stc602.trans k)
      have p604 : ∀ t, St p e below Tc602 (mkF m 138 Ls564 [(.int i2), (.int i1), (.int i0), (.ref o45)]) t → S0 t := fun t k => p603 t (by
        refine XT.lconstV Xc602.here hx rfl (0 : Int64) (hb hby at_128) (by decide) ?_
        refine XS.lcmp Xc602.here hx rfl (hb hby at_129) rfl ?_
        refine XS.ifNo Xc602.here hx rfl (hb hby at_130) rfl ((if0 _ _).trans (teq (by decide : (0 : Int32) = (0 : Int32))).2) ?_
        refine XS.aload Xc602.here hx rfl (hb hby at_133) rfl rfl ?_
        refine XS.iloadN Xc602.here hx rfl (hb hby at_135) rfl ?_
        show St p e below Tc602 (mkF m 136 Ls564 [(.int i0), (.ref o45)]) t
        refine XS.iloadN Xc602.here hx rfl (hb hby at_136) rfl ?_
        refine XS.iloadN Xc602.here hx rfl (hb hby at_137) rfl ?_
        exact k)
      obtain ⟨cqc605, kqc605, qc605a, qc605b, qc605c⟩ := isOf hZ ec602 f_567
      obtain ⟨_, _, ⟨Tc605, Lc605, kc605, nc605⟩, -, Xc605, ⟨Lcc605, hQc605, lc605, yc605, zc605⟩, stc605⟩ := Xc602.virtualBack hx (y := M11) (z := M11) hown (mvT hZ (ww hw 81 rfl)) (mvT hZ (ww hw 82 rfl)) (notFace_of_selects (args := #[]) (mvT hZ (ww hw 84 rfl))) (mvT hZ (ww hw 84 rfl)) (mvT hZ (ww hw 83 rfl)) (by decide) (backOf (W := 0) (rm15_13 l Z a0 hw [] i0 i1 i2 o45 o2_c566 o31_c566 k2_c566 k31_c566 Tc566.heap n0 O598  gb_o45 gn_o2_c566 gn_o31_c566 ne_o45_o2_c566 ne_o45_o31_c566 nn_o2_c566_o31_c566 f_567 f_568 f_569 f_572 f_574 f_575 f_577 f_578) hZ (ww hw 85 rfl) (ww hw 2 rfl) (by decide) (by decide)) qc605a qc605c (g := (mkF m 138 Ls564 [(.int i2), (.int i1), (.int i0), (.ref o45)])) rfl (by rw [hml]; rfl) (Steps.refl _) (argsL := [(.int i0), (.int i1), (.int i2)]) (rest := []) (lenOf pd5 rfl) rfl (by show 2 * 0 + _ ≤ _; exact Nat.le_of_eq rfl) (hb hby at_138) (fun _ _ => ⟨rfl, ec602, (by decide : 12 + 0 ≤ _), (by decide : 60 + 0 ≤ _)⟩)
      dsimp only [Pt.U, Pt.locs, Pt.cells, Pt.slots] at Xc605 lc605 yc605 zc605 stc605 hQc605
      subst lc605 yc605 zc605
      obtain ⟨Nqc605, ec605, hAc605⟩ := hQc605
      have Nc605 := Fr.app Nc602 Nqc605
      obtain rfl := hAc605
      have p606 : ∀ t, St p e below Tc605 (mkF m 141 Ls564 [(.int (0 : Int32))]) t → S0 t := fun t k => p604 t (stc605.trans k)
      have p607 : ∀ t, St p e below Tc605 (mkF m 150 Ls564 [(.int i0), (.int i4), (.int i3), (.ref o45)]) t → S0 t := fun t k => p606 t (by
        refine XS.ifNo Xc605.here hx rfl (hb hby at_141) rfl ((if0 _ _).trans (teq (by decide : (0 : Int32) = (0 : Int32))).2) ?_
        refine XS.aload Xc605.here hx rfl (hb hby at_144) rfl rfl ?_
        refine XS.iloadN Xc605.here hx rfl (hb hby at_146) rfl ?_
        refine XS.iload Xc605.here hx rfl (hb hby at_147) rfl ?_
        refine XS.iloadN Xc605.here hx rfl (hb hby at_149) rfl ?_
        exact k)
      obtain ⟨cqc608, kqc608, qc608a, qc608b, qc608c⟩ := isOf hZ ec605 f_567
      obtain ⟨_, _, ⟨Tc608, Lc608, kc608, nc608⟩, -, Xc608, ⟨Lcc608, hQc608, lc608, yc608, zc608⟩, stc608⟩ := Xc605.virtualBack hx (y := M11) (z := M11) hown (mvT hZ (ww hw 81 rfl)) (mvT hZ (ww hw 82 rfl)) (notFace_of_selects (args := #[]) (mvT hZ (ww hw 84 rfl))) (mvT hZ (ww hw 84 rfl)) (mvT hZ (ww hw 83 rfl)) (by decide) (backOf (W := 0) (rm15_13 l Z a0 hw [] i3 i4 i0 o45 o2_c566 o31_c566 k2_c566 k31_c566 Tc566.heap n0 O598  gb_o45 gn_o2_c566 gn_o31_c566 ne_o45_o2_c566 ne_o45_o31_c566 nn_o2_c566_o31_c566 f_567 f_568 f_569 f_572 f_574 f_575 f_577 f_578) hZ (ww hw 85 rfl) (ww hw 2 rfl) (by decide) (by decide)) qc608a qc608c (g := (mkF m 150 Ls564 [(.int i0), (.int i4), (.int i3), (.ref o45)])) rfl (by rw [hml]; rfl) (Steps.refl _) (argsL := [(.int i3), (.int i4), (.int i0)]) (rest := []) (lenOf pd5 rfl) rfl (by show 2 * 0 + _ ≤ _; exact Nat.le_of_eq rfl) (hb hby at_150) (fun _ _ => ⟨rfl, ec605, (by decide : 12 + 0 ≤ _), (by decide : 60 + 0 ≤ _)⟩)
      dsimp only [Pt.U, Pt.locs, Pt.cells, Pt.slots] at Xc608 lc608 yc608 zc608 stc608 hQc608
      subst lc608 yc608 zc608
      obtain ⟨Nqc608, ec608, hAc608⟩ := hQc608
      have Nc608 := Fr.app Nc605 Nqc608
      obtain rfl := hAc608
      have p609 : ∀ t, St p e below Tc608 (mkF m 153 Ls564 [(.int (0 : Int32))]) t → S0 t := fun t k => p607 t (stc608.trans k)
      let Ls610 : Array Slot := #[.val (.int i0), .val (.int i1), .val (.int i2), .val (.int i3), .val (.int i4), .val (.int i5), .val (.int w2), .val (.int (1 : Int32)), .val (.int (own_isz (own_cmp3 i0 i1 i2 i3 i4 i0))), .val (.ref o45), .val (.long (2 : Int64)), .second, .val (.ref o14_c536), .val (.int (1 : Int32)), .unset]
      have p611 : ∀ t, St p e below Tc608 (mkF m 169 Ls610 [(.int i0), (.int i4), (.int i3), (.ref o45)]) t → S0 t := fun t k => p609 t (by
        refine XS.ifNo Xc608.here hx rfl (hb hby at_153) rfl ((if0 _ _).trans (teq (by decide : (0 : Int32) = (0 : Int32))).2) ?_
        refine XT.iconstV Xc608.here hx rfl (1 : Int32) (hb hby at_156) (by decide) ?_
        refine XS.goto Xc608.here hx rfl (pc0 := 157) (pc' := 161) rfl (hb hby at_157) (by decide) (by decide) ?_
        refine XS.istore Xc608.here hx rfl (hb hby at_161) rfl (l' := Ls610) rfl ?_
        refine XS.aload Xc608.here hx rfl (hb hby at_163) rfl rfl ?_
        show St p e below Tc608 (mkF m 165 Ls610 [(.ref o45)]) t
        refine XS.iloadN Xc608.here hx rfl (hb hby at_165) rfl ?_
        refine XS.iload Xc608.here hx rfl (hb hby at_166) rfl ?_
        refine XS.iloadN Xc608.here hx rfl (hb hby at_168) rfl ?_
        exact k)
      obtain ⟨cqc612, kqc612, qc612a, qc612b, qc612c⟩ := isOf hZ ec608 f_567
      obtain ⟨_, _, ⟨Tc612, Lc612, kc612, nc612⟩, -, Xc612, ⟨Lcc612, hQc612, lc612, yc612, zc612⟩, stc612⟩ := Xc608.virtualBack hx (y := M6) (z := M6) hown (mvT hZ (ww hw 19 rfl)) (mvT hZ (ww hw 20 rfl)) (notFace_of_selects (args := #[]) (mvT hZ (ww hw 22 rfl))) (mvT hZ (ww hw 22 rfl)) (mvT hZ (ww hw 21 rfl)) (by decide) (backOf (W := 0) (rm3_1 l Z a0 hw [] i3 i4 i0 o45 o2_c566 o31_c566 o63_c566 k2_c566 k31_c566 k63_c566 Tc566.heap n0 O598  gb_o45 gn_o2_c566 gn_o31_c566 gn_o63_c566 ne_o45_o2_c566 ne_o45_o31_c566 ne_o45_o63_c566 nn_o2_c566_o31_c566 nn_o2_c566_o63_c566 nn_o31_c566_o63_c566 f_567 f_568 f_569 f_570 f_571 f_572 f_573 f_574 f_575 f_576 f_577 f_578 f_579 f_580) hZ (ww hw 23 rfl) (ww hw 2 rfl) (by decide) (by decide)) qc612a qc612c (g := (mkF m 169 Ls610 [(.int i0), (.int i4), (.int i3), (.ref o45)])) rfl (by rw [hml]; rfl) (Steps.refl _) (argsL := [(.int i3), (.int i4), (.int i0)]) (rest := []) (lenOf pd5 rfl) rfl (by show 2 * 0 + _ ≤ _; exact Nat.le_of_eq rfl) (hb hby at_169) (fun _ _ => ⟨rfl, ec608, (by decide : 12 + 1 ≤ _), (by decide : 60 + 12 ≤ _)⟩)
      dsimp only [Pt.U, Pt.locs, Pt.cells, Pt.slots] at Xc612 lc612 yc612 zc612 stc612 hQc612
      subst lc612 yc612 zc612
      obtain ⟨Nqc612, hAc612⟩ := hQc612
      have Nc612 := Fr.app Nc608 Nqc612
      obtain ⟨o9_c612, k9_c612, rfl, Kcc612, gn_o9_c612, zn_o9_c612, f_613, f_614, f_615, f_616, f_617, f_618, f_619, f_620, f_621, f_622, f_623, f_624, f_625, f_626, f_627, f_628⟩ := hAc612
      have ne_o5_c57_o9_c612 : o5_c57 ≠ o9_c612 := Nat.ne_of_lt (Nat.lt_of_lt_of_le V_581.lt zn_o9_c612)
      have ne_o34_c57_o9_c612 : o34_c57 ≠ o9_c612 := Nat.ne_of_lt (Nat.lt_of_lt_of_le V_585.lt zn_o9_c612)
      have ne_o9_c77_o9_c612 : o9_c77 ≠ o9_c612 := Nat.ne_of_lt (Nat.lt_of_lt_of_le V_587.lt zn_o9_c612)
      have ne_o14_c536_o9_c612 : o14_c536 ≠ o9_c612 := Nat.ne_of_lt (Nat.lt_of_lt_of_le E_589.lt zn_o9_c612)
      have ne_o67_c44_c536_o9_c612 : o67_c44_c536 ≠ o9_c612 := Nat.ne_of_lt (Nat.lt_of_lt_of_le V_596.lt zn_o9_c612)
      have ne_o45_o9_c612 : o45 ≠ o9_c612 := Nat.ne_of_lt (Nat.lt_of_lt_of_le f_567.lt zn_o9_c612)
      have ne_o2_c566_o9_c612 : o2_c566 ≠ o9_c612 := Nat.ne_of_lt (Nat.lt_of_lt_of_le f_574.lt zn_o9_c612)
      have ne_o31_c566_o9_c612 : o31_c566 ≠ o9_c612 := Nat.ne_of_lt (Nat.lt_of_lt_of_le f_577.lt zn_o9_c612)
      have ne_o63_c566_o9_c612 : o63_c566 ≠ o9_c612 := Nat.ne_of_lt (Nat.lt_of_lt_of_le f_579.lt zn_o9_c612)
      have sz_o9_c612 : h0.size ≤ o9_c612 := Nat.le_trans (K599).1 zn_o9_c612
      have V_629 := V_581.keep Kcc612 (ninS (Ne.symm ne_o45_o5_c57) (ninS ne_o5_c57_o63_c566 (ninS ne_o5_c57_o31_c566 (ninS ne_o5_c57_o2_c566 nin0))))
      have E_630 := E_582.keep Kcc612
      have V_631 := V_585.keep Kcc612 (ninS (Ne.symm ne_o45_o34_c57) (ninS ne_o34_c57_o63_c566 (ninS ne_o34_c57_o31_c566 (ninS ne_o34_c57_o2_c566 nin0))))
      have E_632 := E_586.keep Kcc612
      have V_633 := V_587.keep Kcc612 (ninS (Ne.symm ne_o45_o9_c77) (ninS ne_o9_c77_o63_c566 (ninS ne_o9_c77_o31_c566 (ninS ne_o9_c77_o2_c566 nin0))))
      have E_634 := E_588.keep Kcc612
      have E_635 := E_589.keep Kcc612
      have F_636 := F_590.keep Kcc612 (ninS (Ne.symm ne_o45_o14_c536) (ninS ne_o14_c536_o63_c566 (ninS ne_o14_c536_o31_c566 (ninS ne_o14_c536_o2_c566 nin0))))
      have F_637 := F_591.keep Kcc612 (ninS (Ne.symm ne_o45_o14_c536) (ninS ne_o14_c536_o63_c566 (ninS ne_o14_c536_o31_c566 (ninS ne_o14_c536_o2_c566 nin0))))
      have F_638 := F_592.keep Kcc612 (ninS (Ne.symm ne_o45_o14_c536) (ninS ne_o14_c536_o63_c566 (ninS ne_o14_c536_o31_c566 (ninS ne_o14_c536_o2_c566 nin0))))
      have F_639 := F_593.keep Kcc612 (ninS (Ne.symm ne_o45_o14_c536) (ninS ne_o14_c536_o63_c566 (ninS ne_o14_c536_o31_c566 (ninS ne_o14_c536_o2_c566 nin0))))
      have F_640 := F_594.keep Kcc612 (ninS (Ne.symm ne_o45_o14_c536) (ninS ne_o14_c536_o63_c566 (ninS ne_o14_c536_o31_c566 (ninS ne_o14_c536_o2_c566 nin0))))
      have F_641 := F_595.keep Kcc612 (ninS (Ne.symm ne_o45_o14_c536) (ninS ne_o14_c536_o63_c566 (ninS ne_o14_c536_o31_c566 (ninS ne_o14_c536_o2_c566 nin0))))
      have V_642 := V_596.keep Kcc612 (ninS (Ne.symm ne_o45_o67_c44_c536) (ninS ne_o67_c44_c536_o63_c566 (ninS ne_o67_c44_c536_o31_c566 (ninS ne_o67_c44_c536_o2_c566 nin0))))
      have E_643 := E_597.keep Kcc612
      have O644 := O598.keep Kcc612 (allS gb_o45 (allS gn_o63_c566 (allS gn_o31_c566 (allS gn_o2_c566 all0))))
      have K645 := Keep.trans K599 Kcc612 (allS (Or.inr sz_o45) (allS (Or.inr sz_o63_c566) (allS (Or.inr sz_o31_c566) (allS (Or.inr sz_o2_c566) all0))))
      have p646 : ∀ t, St p e below Tc612 (mkF m 172 Ls610 [(.int (1 : Int32))]) t → S0 t := fun t k => p611 t (stc612.trans k)
      let Ls647 : Array Slot := #[.val (.int i0), .val (.int i1), .val (.int i2), .val (.int i3), .val (.int i4), .val (.int i5), .val (.int w2), .val (.int (1 : Int32)), .val (.int (own_isz (own_cmp3 i0 i1 i2 i3 i4 i0))), .val (.ref o45), .val (.long (2 : Int64)), .second, .val (.ref o14_c536), .val (.int (1 : Int32)), .val (.int (1 : Int32))]
      have p648 : ∀ t, St p e below Tc612 (mkF m 186 Ls647 [(.ref o45)]) t → S0 t := fun t k => p646 t (by
        refine XS.istore Xc612.here hx rfl (hb hby at_172) rfl (l' := Ls647) rfl ?_
        refine XS.iload Xc612.here hx rfl (hb hby at_174) rfl ?_
        refine XS.ifNo Xc612.here hx rfl (hb hby at_176) rfl ((if0 _ _).trans (feq (by decide : ¬ ((1 : Int32) = (0 : Int32)))).1) ?_
        refine XS.iload Xc612.here hx rfl (hb hby at_179) rfl ?_
        refine XS.ifNo Xc612.here hx rfl (hb hby at_181) rfl ((if0 _ _).trans (feq (by decide : ¬ ((1 : Int32) = (0 : Int32)))).1) ?_
        show St p e below Tc612 (mkF m 184 Ls647 []) t
        refine XS.aload Xc612.here hx rfl (hb hby at_184) rfl rfl ?_
        exact k)
      obtain ⟨cqc649, kqc649, qc649a, qc649b, qc649c⟩ := isOf hZ rfl f_615
      obtain ⟨_, _, ⟨Tc649, Lc649, kc649, nc649⟩, -, Xc649, ⟨Lcc649, hQc649, lc649, yc649, zc649⟩, stc649⟩ := Xc612.virtualBack hx (y := M10) (z := M10) hown (mvT hZ (ww hw 76 rfl)) (mvT hZ (ww hw 77 rfl)) (notFace_of_selects (args := #[]) (mvT hZ (ww hw 79 rfl))) (mvT hZ (ww hw 79 rfl)) (mvT hZ (ww hw 78 rfl)) (by decide) (backOf (W := 0) (rm14_12 l Z a0 hw [] (1 : Int64) o45 Tc612.heap n0 O644  gb_o45 f_615 f_621) hZ (ww hw 80 rfl) (ww hw 2 rfl) (by decide) (by decide)) qc649a qc649c (g := (mkF m 186 Ls647 [(.ref o45)])) rfl (by rw [hml]; rfl) (Steps.refl _) (argsL := []) (rest := []) (lenOf pd8 rfl) rfl (by show 2 * 0 + _ ≤ _; exact Nat.le_of_eq rfl) (hb hby at_186) (fun _ _ => ⟨rfl, rfl, (by decide : 13 + 0 ≤ _), (by decide : 72 + 0 ≤ _)⟩)
      dsimp only [Pt.U, Pt.locs, Pt.cells, Pt.slots] at Xc649 lc649 yc649 zc649 stc649 hQc649
      subst lc649 yc649 zc649
      obtain ⟨Nqc649, ec649, hAc649⟩ := hQc649
      have Nc649 := Fr.app Nc612 Nqc649
      obtain rfl := hAc649
      have p650 : ∀ t, St p e below Tc649 (mkF m 189 Ls647 [(.long (1 : Int64))]) t → S0 t := fun t k => p648 t (stc649.trans k)
      have p651 : ∀ t, St p e below Tc649 (mkF m 194 Ls647 []) t → S0 t := fun t k => p650 t (by
        refine XT.lconstV Xc649.here hx rfl (1 : Int64) (hb hby at_189) (by decide) ?_
        refine XS.lcmp Xc649.here hx rfl (hb hby at_190) rfl ?_
        refine XS.ifNo Xc649.here hx rfl (hb hby at_191) rfl ((if0 _ _).trans (teq (by decide : (0 : Int32) = (0 : Int32))).2) ?_
        exact k)
      obtain ⟨Tj652, Lj652, Xj652, ej652, Nj652, pj652⟩ : ∃  (Tj652 : State) (Lj652 : List Loc), Stand p l e room_1 s m #[(.int i0), (.int i1), (.int i2), (.int i3), (.int i4), (.int i5)] below meth c Tj652 Lj652 13 72 ∧ Tj652.heap = Tc612.heap ∧ Fr n0 Lj652 ∧ ∀ t, St p e below Tj652 (mkF m 226 #[.val (.int i0), .val (.int i1), .val (.int i2), .val (.int i3), .val (.int i4), .val (.int i5), .val (.int w2), .val (.int (1 : Int32)), .val (.int (0 : Int32)), .val (.ref o45), .val (.long (2 : Int64)), .second, .val (.ref o14_c536), .val (.int (1 : Int32)), .val (.int (1 : Int32))] []) t → S0 t := by
       have p653 : ∀ t, St p e below Tc649 (mkF m 200 Ls647 [(.int i0), (.int i4), (.int i3), (.ref o45)]) t → S0 t := fun t k => p651 t (by
         refine XS.aload Xc649.here hx rfl (hb hby at_194) rfl rfl ?_
         refine XS.iloadN Xc649.here hx rfl (hb hby at_196) rfl ?_
         refine XS.iload Xc649.here hx rfl (hb hby at_197) rfl ?_
         refine XS.iloadN Xc649.here hx rfl (hb hby at_199) rfl ?_
         exact k)
       obtain ⟨cqc654, kqc654, qc654a, qc654b, qc654c⟩ := isOf hZ ec649 f_615
       obtain ⟨_, _, ⟨Tc654, Lc654, kc654, nc654⟩, -, Xc654, ⟨Lcc654, hQc654, lc654, yc654, zc654⟩, stc654⟩ := Xc649.virtualBack hx (y := M11) (z := M11) hown (mvT hZ (ww hw 81 rfl)) (mvT hZ (ww hw 82 rfl)) (notFace_of_selects (args := #[]) (mvT hZ (ww hw 84 rfl))) (mvT hZ (ww hw 84 rfl)) (mvT hZ (ww hw 83 rfl)) (by decide) (backOf (W := 0) (rm15_14 l Z a0 hw [] i3 i4 i0 i3 i4 i0 (0 : Int32) (0 : Int32) (0 : Int32) (0 : Int32) (0 : Int32) (0 : Int32) (0 : Int32) (0 : Int32) (0 : Int32) o45 o2_c566 o31_c566 o9_c612 k2_c566 k31_c566 k9_c612 Tc612.heap n0 O644  gb_o45 gn_o2_c566 gn_o31_c566 gn_o9_c612 ne_o45_o2_c566 ne_o45_o31_c566 ne_o45_o9_c612 nn_o2_c566_o31_c566 ne_o2_c566_o9_c612 ne_o31_c566_o9_c612 f_615 f_616 f_617 f_620 f_622 f_623 f_625 f_626 f_613 f_614) hZ (ww hw 85 rfl) (ww hw 2 rfl) (by decide) (by decide)) qc654a qc654c (g := (mkF m 200 Ls647 [(.int i0), (.int i4), (.int i3), (.ref o45)])) rfl (by rw [hml]; rfl) (Steps.refl _) (argsL := [(.int i3), (.int i4), (.int i0)]) (rest := []) (lenOf pd5 rfl) rfl (by show 2 * 0 + _ ≤ _; exact Nat.le_of_eq rfl) (hb hby at_200) (fun _ _ => ⟨rfl, ec649, (by decide : 13 + 0 ≤ _), (by decide : 72 + 0 ≤ _)⟩)
       dsimp only [Pt.U, Pt.locs, Pt.cells, Pt.slots] at Xc654 lc654 yc654 zc654 stc654 hQc654
       subst lc654 yc654 zc654
       obtain ⟨Nqc654, ec654, hAc654⟩ := hQc654
       have Nc654 := Fr.app Nc649 Nqc654
       rcases hAc654 with ⟨rfl, g655⟩ | ⟨rfl, g656, g657⟩ | ⟨rfl, g658, g659⟩
       ·
        exact (ar7 g655).elim
       ·
        exact (ar8 g657).elim
       ·
        have p660 : ∀ t, St p e below Tc654 (mkF m 203 Ls647 [(.int (1 : Int32))]) t → S0 t := fun t k => p653 t (stc654.trans k)
        have p661 : ∀ t, St p e below Tc654 (mkF m 211 Ls647 [(.int i2), (.int i1), (.int i0), (.ref o45)]) t → S0 t := fun t k => p660 t (by
          refine XS.ifNo Xc654.here hx rfl (hb hby at_203) rfl ((if0 _ _).trans (feq (by decide : ¬ ((1 : Int32) = (0 : Int32)))).1) ?_
          refine XS.aload Xc654.here hx rfl (hb hby at_206) rfl rfl ?_
          refine XS.iloadN Xc654.here hx rfl (hb hby at_208) rfl ?_
          refine XS.iloadN Xc654.here hx rfl (hb hby at_209) rfl ?_
          refine XS.iloadN Xc654.here hx rfl (hb hby at_210) rfl ?_
          exact k)
        obtain ⟨cqc662, kqc662, qc662a, qc662b, qc662c⟩ := isOf hZ ec654 f_615
        obtain ⟨_, _, ⟨Tc662, Lc662, kc662, nc662⟩, -, Xc662, ⟨Lcc662, hQc662, lc662, yc662, zc662⟩, stc662⟩ := Xc654.virtualBack hx (y := M11) (z := M11) hown (mvT hZ (ww hw 81 rfl)) (mvT hZ (ww hw 82 rfl)) (notFace_of_selects (args := #[]) (mvT hZ (ww hw 84 rfl))) (mvT hZ (ww hw 84 rfl)) (mvT hZ (ww hw 83 rfl)) (by decide) (backOf (W := 0) (rm15_14 l Z a0 hw [] i0 i1 i2 i3 i4 i0 (0 : Int32) (0 : Int32) (0 : Int32) (0 : Int32) (0 : Int32) (0 : Int32) (0 : Int32) (0 : Int32) (0 : Int32) o45 o2_c566 o31_c566 o9_c612 k2_c566 k31_c566 k9_c612 Tc612.heap n0 O644  gb_o45 gn_o2_c566 gn_o31_c566 gn_o9_c612 ne_o45_o2_c566 ne_o45_o31_c566 ne_o45_o9_c612 nn_o2_c566_o31_c566 ne_o2_c566_o9_c612 ne_o31_c566_o9_c612 f_615 f_616 f_617 f_620 f_622 f_623 f_625 f_626 f_613 f_614) hZ (ww hw 85 rfl) (ww hw 2 rfl) (by decide) (by decide)) qc662a qc662c (g := (mkF m 211 Ls647 [(.int i2), (.int i1), (.int i0), (.ref o45)])) rfl (by rw [hml]; rfl) (Steps.refl _) (argsL := [(.int i0), (.int i1), (.int i2)]) (rest := []) (lenOf pd5 rfl) rfl (by show 2 * 0 + _ ≤ _; exact Nat.le_of_eq rfl) (hb hby at_211) (fun _ _ => ⟨rfl, ec654, (by decide : 13 + 0 ≤ _), (by decide : 72 + 0 ≤ _)⟩)
        dsimp only [Pt.U, Pt.locs, Pt.cells, Pt.slots] at Xc662 lc662 yc662 zc662 stc662 hQc662
        subst lc662 yc662 zc662
        obtain ⟨Nqc662, ec662, hAc662⟩ := hQc662
        have Nc662 := Fr.app Nc654 Nqc662
        rcases hAc662 with ⟨rfl, g663⟩ | ⟨rfl, g664, g665⟩ | ⟨rfl, g666, g667⟩
        ·
         exact (ar12 g486 g663).elim
        ·
         have p668 : ∀ t, St p e below Tc662 (mkF m 214 Ls647 [(.int (0 : Int32))]) t → S0 t := fun t k => p661 t (stc662.trans k)
         have p669 : ∀ t, St p e below Tc662 (mkF m 216 Ls647 [(.int (own_isz (own_cmp3 i0 i1 i2 i3 i4 i0))), (.int (0 : Int32))]) t → S0 t := fun t k => p668 t (by
           refine XS.iload Xc662.here hx rfl (hb hby at_214) rfl ?_
           exact k)
         let Ls671 : Array Slot := #[.val (.int i0), .val (.int i1), .val (.int i2), .val (.int i3), .val (.int i4), .val (.int i5), .val (.int w2), .val (.int (1 : Int32)), .val (.int (0 : Int32)), .val (.ref o45), .val (.long (2 : Int64)), .second, .val (.ref o14_c536), .val (.int (1 : Int32)), .val (.int (1 : Int32))]
         have p670 : ∀ t, St p e below Tc662 (mkF m 216 Ls671 [(.int (0 : Int32)), (.int (0 : Int32))]) t → S0 t := fun t k => p669 t (by show St p e below Tc662 (mkF m 216 #[.val (.int i0), .val (.int i1), .val (.int i2), .val (.int i3), .val (.int i4), .val (.int i5), .val (.int w2), .val (.int (1 : Int32)), .val (.int (own_isz (own_cmp3 i0 i1 i2 i3 i4 i0))), .val (.ref o45), .val (.long (2 : Int64)), .second, .val (.ref o14_c536), .val (.int (1 : Int32)), .val (.int (1 : Int32))] [(.int (own_isz (own_cmp3 i0 i1 i2 i3 i4 i0))), (.int (0 : Int32))]) t; rw [g532]; exact k)
         have p672 : ∀ t, St p e below Tc662 (mkF m 226 Ls671 []) t → S0 t := fun t k => p670 t (by
           refine XS.icmpNo Xc662.here hx rfl (hb hby at_216) rfl (teq (by decide : (0 : Int32) = (0 : Int32))).2 ?_
           refine XT.iconstV Xc662.here hx rfl (1 : Int32) (hb hby at_219) (by decide) ?_
           refine XS.goto Xc662.here hx rfl (pc0 := 220) (pc' := 224) rfl (hb hby at_220) (by decide) (by decide) ?_
           refine XS.istore Xc662.here hx rfl (hb hby at_224) rfl (l' := Ls671) rfl ?_
           exact k)
         exact ⟨_, _, Xc662, ec662, Nc662, p672⟩
        ·
         exact (ar13 g486 g667).elim
      let Ls673 : Array Slot := #[.val (.int i0), .val (.int i1), .val (.int i2), .val (.int i3), .val (.int i4), .val (.int i5), .val (.int w2), .val (.int (1 : Int32)), .val (.int (0 : Int32)), .val (.ref o45), .val (.long (2 : Int64)), .second, .val (.ref o14_c536), .val (.int (1 : Int32)), .val (.int (1 : Int32))]
      have p674 : ∀ t, St p e below Tj652 (mkF m 238 Ls673 [(.ref o14_c536)]) t → S0 t := fun t k => pj652 t (by
        refine XS.iload Xj652.here hx rfl (hb hby at_226) rfl ?_
        refine XS.ifNo Xj652.here hx rfl (hb hby at_228) rfl ((if0 _ _).trans (feq (by decide : ¬ ((1 : Int32) = (0 : Int32)))).1) ?_
        refine XS.iload Xj652.here hx rfl (hb hby at_231) rfl ?_
        refine XS.ifNo Xj652.here hx rfl (hb hby at_233) rfl ((if0 _ _).trans (feq (by decide : ¬ ((1 : Int32) = (0 : Int32)))).1) ?_
        refine XS.aload Xj652.here hx rfl (hb hby at_236) rfl rfl ?_
        exact k)
      obtain ⟨cqc675, kqc675, qc675a, qc675b, qc675c⟩ := isOf hZ ej652 E_635
      obtain ⟨_, _, ⟨Tc675, Lc675, kc675, nc675⟩, -, Xc675, ⟨Lcc675, hQc675, lc675, yc675, zc675⟩, stc675⟩ := Xj652.virtualBack hx (y := M10) (z := M10) hown (mvT hZ (ww hw 76 rfl)) (mvT hZ (ww hw 77 rfl)) (notFace_of_selects (args := #[]) (mvT hZ (ww hw 79 rfl))) (mvT hZ (ww hw 79 rfl)) (mvT hZ (ww hw 78 rfl)) (by decide) (backOf (W := 0) (rm14_12 l Z a0 hw [] (2 : Int64) o14_c536 Tc612.heap n0 O644  gn_o14_c536 E_635 F_641) hZ (ww hw 80 rfl) (ww hw 2 rfl) (by decide) (by decide)) qc675a qc675c (g := (mkF m 238 Ls673 [(.ref o14_c536)])) rfl (by rw [hml]; rfl) (Steps.refl _) (argsL := []) (rest := []) (lenOf pd8 rfl) rfl (by show 2 * 0 + _ ≤ _; exact Nat.le_of_eq rfl) (hb hby at_238) (fun _ _ => ⟨rfl, ej652, (by decide : 13 + 0 ≤ _), (by decide : 72 + 0 ≤ _)⟩)
      dsimp only [Pt.U, Pt.locs, Pt.cells, Pt.slots] at Xc675 lc675 yc675 zc675 stc675 hQc675
      subst lc675 yc675 zc675
      obtain ⟨Nqc675, ec675, hAc675⟩ := hQc675
      have Nc675 := Fr.app Nj652 Nqc675
      obtain rfl := hAc675
      have p676 : ∀ t, St p e below Tc675 (mkF m 241 Ls673 [(.long (2 : Int64))]) t → S0 t := fun t k => p674 t (stc675.trans k)
      have p677 : ∀ t, St p e below Tc675 (mkF m 252 Ls673 [(.int i2), (.int i1), (.int i0), (.ref o14_c536)]) t → S0 t := fun t k => p676 t (by
        refine XS.lload Xc675.here hx rfl (hb hby at_241) rfl ?_
        refine XS.lcmp Xc675.here hx rfl (hb hby at_243) rfl ?_
        refine XS.ifNo Xc675.here hx rfl (hb hby at_244) rfl ((if0 _ _).trans (teq (by decide : (0 : Int32) = (0 : Int32))).2) ?_
        refine XS.aload Xc675.here hx rfl (hb hby at_247) rfl rfl ?_
        refine XS.iloadN Xc675.here hx rfl (hb hby at_249) rfl ?_
        show St p e below Tc675 (mkF m 250 Ls673 [(.int i0), (.ref o14_c536)]) t
        refine XS.iloadN Xc675.here hx rfl (hb hby at_250) rfl ?_
        refine XS.iloadN Xc675.here hx rfl (hb hby at_251) rfl ?_
        exact k)
      obtain ⟨cqc678, kqc678, qc678a, qc678b, qc678c⟩ := isOf hZ ec675 E_635
      obtain ⟨_, _, ⟨Tc678, Lc678, kc678, nc678⟩, -, Xc678, ⟨Lcc678, hQc678, lc678, yc678, zc678⟩, stc678⟩ := Xc675.virtualBack hx (y := M11) (z := M11) hown (mvT hZ (ww hw 81 rfl)) (mvT hZ (ww hw 82 rfl)) (notFace_of_selects (args := #[]) (mvT hZ (ww hw 84 rfl))) (mvT hZ (ww hw 84 rfl)) (mvT hZ (ww hw 83 rfl)) (by decide) (backOf (W := 0) (rm15_17 l Z a0 hw [] i0 i1 i2 i0 i1 i2 i3 i4 i0 (0 : Int32) (0 : Int32) (0 : Int32) (0 : Int32) (0 : Int32) (0 : Int32) o14_c536 o5_c57 o34_c57 o9_c77 k5_c57 k34_c57 k9_c77 Tc612.heap n0 O644  gn_o14_c536 gn_o5_c57 gn_o34_c57 gn_o9_c77 (Ne.symm ne_o5_c57_o14_c536) (Ne.symm ne_o34_c57_o14_c536) (Ne.symm ne_o9_c77_o14_c536) nn_o5_c57_o34_c57 ne_o5_c57_o9_c77 ne_o34_c57_o9_c77 E_635 F_636 F_637 F_640 V_629 E_630 V_631 E_632 V_633 E_634) hZ (ww hw 85 rfl) (ww hw 2 rfl) (by decide) (by decide)) qc678a qc678c (g := (mkF m 252 Ls673 [(.int i2), (.int i1), (.int i0), (.ref o14_c536)])) rfl (by rw [hml]; rfl) (Steps.refl _) (argsL := [(.int i0), (.int i1), (.int i2)]) (rest := []) (lenOf pd5 rfl) rfl (by show 2 * 0 + _ ≤ _; exact Nat.le_of_eq rfl) (hb hby at_252) (fun _ _ => ⟨rfl, ec675, (by decide : 13 + 0 ≤ _), (by decide : 72 + 0 ≤ _)⟩)
      dsimp only [Pt.U, Pt.locs, Pt.cells, Pt.slots] at Xc678 lc678 yc678 zc678 stc678 hQc678
      subst lc678 yc678 zc678
      obtain ⟨Nqc678, ec678, hAc678⟩ := hQc678
      have Nc678 := Fr.app Nc675 Nqc678
      rcases hAc678 with ⟨rfl, g679⟩ | ⟨rfl, g680, g681, g682⟩ | ⟨rfl, g683, g684, g685, g686⟩ | ⟨rfl, g687, g688, g689, g690⟩ | ⟨rfl, g691, g692⟩
      ·
       exact (ar12 g486 g679).elim
      ·
       exact (ar7 g682).elim
      ·
       exact (ar8 g686).elim
      ·
       have p693 : ∀ t, St p e below Tc678 (mkF m 255 Ls673 [(.int (1 : Int32))]) t → S0 t := fun t k => p677 t (stc678.trans k)
       have p694 : ∀ t, St p e below Tc678 (mkF m 264 Ls673 [(.int i0), (.int i4), (.int i3), (.ref o14_c536)]) t → S0 t := fun t k => p693 t (by
         refine XS.ifNo Xc678.here hx rfl (hb hby at_255) rfl ((if0 _ _).trans (feq (by decide : ¬ ((1 : Int32) = (0 : Int32)))).1) ?_
         refine XS.aload Xc678.here hx rfl (hb hby at_258) rfl rfl ?_
         refine XS.iloadN Xc678.here hx rfl (hb hby at_260) rfl ?_
         refine XS.iload Xc678.here hx rfl (hb hby at_261) rfl ?_
         refine XS.iloadN Xc678.here hx rfl (hb hby at_263) rfl ?_
         exact k)
       obtain ⟨cqc695, kqc695, qc695a, qc695b, qc695c⟩ := isOf hZ ec678 E_635
       obtain ⟨_, _, ⟨Tc695, Lc695, kc695, nc695⟩, -, Xc695, ⟨Lcc695, hQc695, lc695, yc695, zc695⟩, stc695⟩ := Xc678.virtualBack hx (y := M11) (z := M11) hown (mvT hZ (ww hw 81 rfl)) (mvT hZ (ww hw 82 rfl)) (notFace_of_selects (args := #[]) (mvT hZ (ww hw 84 rfl))) (mvT hZ (ww hw 84 rfl)) (mvT hZ (ww hw 83 rfl)) (by decide) (backOf (W := 0) (rm15_17 l Z a0 hw [] i3 i4 i0 i0 i1 i2 i3 i4 i0 (0 : Int32) (0 : Int32) (0 : Int32) (0 : Int32) (0 : Int32) (0 : Int32) o14_c536 o5_c57 o34_c57 o9_c77 k5_c57 k34_c57 k9_c77 Tc612.heap n0 O644  gn_o14_c536 gn_o5_c57 gn_o34_c57 gn_o9_c77 (Ne.symm ne_o5_c57_o14_c536) (Ne.symm ne_o34_c57_o14_c536) (Ne.symm ne_o9_c77_o14_c536) nn_o5_c57_o34_c57 ne_o5_c57_o9_c77 ne_o34_c57_o9_c77 E_635 F_636 F_637 F_640 V_629 E_630 V_631 E_632 V_633 E_634) hZ (ww hw 85 rfl) (ww hw 2 rfl) (by decide) (by decide)) qc695a qc695c (g := (mkF m 264 Ls673 [(.int i0), (.int i4), (.int i3), (.ref o14_c536)])) rfl (by rw [hml]; rfl) (Steps.refl _) (argsL := [(.int i3), (.int i4), (.int i0)]) (rest := []) (lenOf pd5 rfl) rfl (by show 2 * 0 + _ ≤ _; exact Nat.le_of_eq rfl) (hb hby at_264) (fun _ _ => ⟨rfl, ec678, (by decide : 13 + 0 ≤ _), (by decide : 72 + 0 ≤ _)⟩)
       dsimp only [Pt.U, Pt.locs, Pt.cells, Pt.slots] at Xc695 lc695 yc695 zc695 stc695 hQc695
       subst lc695 yc695 zc695
       obtain ⟨Nqc695, ec695, hAc695⟩ := hQc695
       have Nc695 := Fr.app Nc678 Nqc695
       rcases hAc695 with ⟨rfl, g696⟩ | ⟨rfl, g697, g698, g699⟩ | ⟨rfl, g700, g701, g702, g703⟩ | ⟨rfl, g704, g705, g706, g707⟩ | ⟨rfl, g708, g709⟩
       ·
        exact (ar7 g696).elim
       ·
        exact (ar8 g698).elim
       ·
        exact (ar8 g701).elim
       ·
        exact (ar8 g705).elim
       ·
        have p710 : ∀ t, St p e below Tc695 (mkF m 267 Ls673 [(.int (1 : Int32))]) t → S0 t := fun t k => p694 t (stc695.trans k)
        have p711 : ∀ t, St p e below Tc695 (mkF m 294 Ls673 [(.int (1 : Int32))]) t → S0 t := fun t k => p710 t (by
          refine XS.iload Xc695.here hx rfl (hb hby at_267) rfl ?_
          refine XS.ifYes Xc695.here hx rfl (pc0 := 269) (pc' := 277) rfl (hb hby at_269) rfl ((if0 _ _).trans (feq g305).2) (by decide) (by decide) ?_
          refine XT.iconstV Xc695.here hx rfl (1 : Int32) (hb hby at_277) (by decide) ?_
          refine XS.goto Xc695.here hx rfl (pc0 := 278) (pc' := 282) rfl (hb hby at_278) (by decide) (by decide) ?_
          refine XS.icmpNo Xc695.here hx rfl (hb hby at_282) rfl (teq (by decide : (1 : Int32) = (1 : Int32))).2 ?_
          show St p e below Tc695 (mkF m 285 Ls673 []) t
          refine XT.iconstV Xc695.here hx rfl (1 : Int32) (hb hby at_285) (by decide) ?_
          refine XS.goto Xc695.here hx rfl (pc0 := 286) (pc' := 290) rfl (hb hby at_286) (by decide) (by decide) ?_
          refine XS.istore Xc695.here hx rfl (hb hby at_290) rfl (l' := Ls673) rfl ?_
          refine XS.iload Xc695.here hx rfl (hb hby at_292) rfl ?_
          exact k)
        obtain ⟨fs, hr, hrun, hended, hW, hsame⟩ := Xc695.leave (v := some (.int (1 : Int32))) (fun h => by rw [Bd.returns] at h; cases h)
        refine ⟨_, _, p711 _ ?_, hrun, hended, _, _, rfl, ?_, ⟨_, rfl⟩, hW, hsame.mono (by decide) (by decide)⟩
        · exact retOut Xc695 hx Bd.returns rfl (Or.inl ⟨rfl, by simp, _, rfl⟩) (hb hby at_294) hr
        · exact ⟨rfl, Nc695⟩
      ·
       exact (ar13 g486 g692).elim
     ·
      exact (ar4 g486 g532).elim
    ·
     have V_712 := f_87.keep Kcc485 (ninS ne_o5_c57_o9_c77 (ninS nn_o5_c57_o34_c57 (ninS (Ne.symm ne_o45_o5_c57) nin0)))
     have E_713 := f_88.keep Kcc485
     have V_714 := f_92.keep Kcc485 (ninS ne_o66_c57_o9_c77 (ninS (Ne.symm nn_o34_c57_o66_c57) (ninS (Ne.symm ne_o45_o66_c57) nin0)))
     have E_715 := f_93.keep Kcc485
     have O716 := O94.keep Kcc485 (allS gn_o9_c77 (allS gn_o34_c57 (allS gb_o45 all0)))
     have K717 := Keep.trans K95 Kcc485 (allS (Or.inr sz_o9_c77) (allS (Or.inr sz_o34_c57) (allS (Or.inr sz_o45) all0)))
     have p718 : ∀ t, St p e below Tc485 (mkF m 83 Ls303 [(.int (1 : Int32))]) t → S0 t := fun t k => p484 t (stc485.trans k)
     have p719 : ∀ t, St p e below Tc485 (mkF m 91 Ls303 [(.int (own_isz (own_cmp3 i0 i1 i2 i3 i4 i0)))]) t → S0 t := fun t k => p718 t (by
       refine XS.pop Xc485.here hx rfl (hb hby at_83) rfl rfl ?_
       refine XS.iload Xc485.here hx rfl (hb hby at_84) rfl ?_
       refine XS.ifNo Xc485.here hx rfl (hb hby at_86) rfl ((if0 _ _).trans (feq g305).1) ?_
       refine XS.iload Xc485.here hx rfl (hb hby at_89) rfl ?_
       exact k)
     by_cases g720 : (own_isz (own_cmp3 i0 i1 i2 i3 i4 i0)) = (0 : Int32)
     ·
      let Ls721 : Array Slot := #[.val (.int i0), .val (.int i1), .val (.int i2), .val (.int i3), .val (.int i4), .val (.int i5), .val (.int w2), .val (.int (1 : Int32)), .val (.int (own_isz (own_cmp3 i0 i1 i2 i3 i4 i0))), .val (.ref o45), .val (.long (2 : Int64)), .second, .unset, .unset, .unset]
      let Ls722 : Array Slot := #[.val (.int i0), .val (.int i1), .val (.int i2), .val (.int i3), .val (.int i4), .val (.int i5), .val (.int w2), .val (.int (1 : Int32)), .val (.int (own_isz (own_cmp3 i0 i1 i2 i3 i4 i0))), .val (.ref o45), .val (.long (2 : Int64)), .second, .val .null, .unset, .unset]
      have p723 : ∀ t, St p e below Tc485 (mkF m 113 Ls722 [(.ref o45)]) t → S0 t := fun t k => p719 t (by
        refine XS.ifNo Xc485.here hx rfl (hb hby at_91) rfl ((if0 _ _).trans (teq g720).2) ?_
        refine Xc485.ldc2J hx hown (mvT hZ (ww hw 61 rfl)) rfl (hb hby at_94) ?_
        refine XS.goto Xc485.here hx rfl (pc0 := 97) (pc' := 101) rfl (hb hby at_97) (by decide) (by decide) ?_
        refine XS.lstore Xc485.here hx rfl (hb hby at_101) rfl (l' := Ls721) rfl ?_
        refine XS.aconstNull Xc485.here hx rfl (hb hby at_103) ?_
        show St p e below Tc485 (mkF m 104 Ls721 [.null]) t
        refine XS.astore Xc485.here hx rfl (hb hby at_104) rfl rfl (l' := Ls722) rfl ?_
        refine XS.iload Xc485.here hx rfl (hb hby at_106) rfl ?_
        refine XS.ifNo Xc485.here hx rfl (hb hby at_108) rfl ((if0 _ _).trans (feq (by decide : ¬ ((1 : Int32) = (0 : Int32)))).1) ?_
        refine XS.aload Xc485.here hx rfl (hb hby at_111) rfl rfl ?_
        exact k)
      obtain ⟨cqc724, kqc724, qc724a, qc724b, qc724c⟩ := isOf hZ rfl f_500
      obtain ⟨_, _, ⟨Tc724, Lc724, kc724, nc724⟩, -, Xc724, ⟨Lcc724, hQc724, lc724, yc724, zc724⟩, stc724⟩ := Xc485.virtualBack hx (y := M13) (z := M13) hown (mvT hZ (ww hw 62 rfl)) (mvT hZ (ww hw 63 rfl)) (notFace_of_selects (args := #[]) (mvT hZ (ww hw 65 rfl))) (mvT hZ (ww hw 65 rfl)) (mvT hZ (ww hw 64 rfl)) (by decide) (backOf (W := 0) (rm11_15 l Z a0 hw [] (0 : Int32) (1 : Int32) (2 : Int64) o45 o5_c57 o34_c57 o66_c57 Tc485.heap n0 O716  gb_o45 gn_o5_c57 gn_o34_c57 gn_o66_c57 ne_o45_o5_c57 ne_o45_o34_c57 ne_o45_o66_c57 nn_o5_c57_o34_c57 nn_o5_c57_o66_c57 nn_o34_c57_o66_c57 f_500 f_501 f_502 f_503 f_504 f_505 f_506) hZ (ww hw 66 rfl) (ww hw 2 rfl) (by decide) (by decide)) qc724a qc724c (g := (mkF m 113 Ls722 [(.ref o45)])) rfl (by rw [hml]; rfl) (Steps.refl _) (argsL := []) (rest := []) (lenOf pd10 rfl) rfl (by show 2 * 0 + _ ≤ _; exact Nat.le_of_eq rfl) (hb hby at_113) (fun _ _ => ⟨rfl, rfl, (by decide : 5 + 4 ≤ _), (by decide : 30 + 18 ≤ _)⟩)
      dsimp only [Pt.U, Pt.locs, Pt.cells, Pt.slots] at Xc724 lc724 yc724 zc724 stc724 hQc724
      subst lc724 yc724 zc724
      obtain ⟨Nqc724, hAc724⟩ := hQc724
      have Nc724 := Fr.app Nc485 Nqc724
      obtain ⟨o14_c724, o67_c44_c724, k67_c44_c724, rfl, Kcc724, gn_o14_c724, zn_o14_c724, gn_o67_c44_c724, zn_o67_c44_c724, nn_o14_c724_o67_c44_c724, f_725, f_726, f_727, f_728, f_729, f_730, f_731, f_732, f_733, f_734, f_735, f_736, f_737, f_738, f_739, f_740⟩ := hAc724
      have ne_o5_c57_o14_c724 : o5_c57 ≠ o14_c724 := Nat.ne_of_lt (Nat.lt_of_lt_of_le V_712.lt zn_o14_c724)
      have ne_o66_c57_o14_c724 : o66_c57 ≠ o14_c724 := Nat.ne_of_lt (Nat.lt_of_lt_of_le V_714.lt zn_o14_c724)
      have ne_o45_o14_c724 : o45 ≠ o14_c724 := Nat.ne_of_lt (Nat.lt_of_lt_of_le f_500.lt zn_o14_c724)
      have ne_o34_c57_o14_c724 : o34_c57 ≠ o14_c724 := Nat.ne_of_lt (Nat.lt_of_lt_of_le f_507.lt zn_o14_c724)
      have ne_o9_c77_o14_c724 : o9_c77 ≠ o14_c724 := Nat.ne_of_lt (Nat.lt_of_lt_of_le f_509.lt zn_o14_c724)
      have ne_o5_c57_o67_c44_c724 : o5_c57 ≠ o67_c44_c724 := Nat.ne_of_lt (Nat.lt_of_lt_of_le V_712.lt zn_o67_c44_c724)
      have ne_o66_c57_o67_c44_c724 : o66_c57 ≠ o67_c44_c724 := Nat.ne_of_lt (Nat.lt_of_lt_of_le V_714.lt zn_o67_c44_c724)
      have ne_o45_o67_c44_c724 : o45 ≠ o67_c44_c724 := Nat.ne_of_lt (Nat.lt_of_lt_of_le f_500.lt zn_o67_c44_c724)
      have ne_o34_c57_o67_c44_c724 : o34_c57 ≠ o67_c44_c724 := Nat.ne_of_lt (Nat.lt_of_lt_of_le f_507.lt zn_o67_c44_c724)
      have ne_o9_c77_o67_c44_c724 : o9_c77 ≠ o67_c44_c724 := Nat.ne_of_lt (Nat.lt_of_lt_of_le f_509.lt zn_o67_c44_c724)
      have sz_o14_c724 : h0.size ≤ o14_c724 := Nat.le_trans (K717).1 zn_o14_c724
      have sz_o67_c44_c724 : h0.size ≤ o67_c44_c724 := Nat.le_trans (K717).1 zn_o67_c44_c724
      have V_741 := V_712.keep Kcc724 (ninS (Ne.symm ne_o45_o5_c57) nin0)
      have E_742 := E_713.keep Kcc724
      have V_743 := V_714.keep Kcc724 (ninS (Ne.symm ne_o45_o66_c57) nin0)
      have E_744 := E_715.keep Kcc724
      have V_745 := f_507.keep Kcc724 (ninS (Ne.symm ne_o45_o34_c57) nin0)
      have E_746 := f_508.keep Kcc724
      have V_747 := f_509.keep Kcc724 (ninS (Ne.symm ne_o45_o9_c77) nin0)
      have E_748 := f_510.keep Kcc724
      have O749 := O716.keep Kcc724 (allS gb_o45 all0)
      have K750 := Keep.trans K717 Kcc724 (allS (Or.inr sz_o45) all0)
      have p751 : ∀ t, St p e below Tc724 (mkF m 116 Ls722 [(.ref o14_c724)]) t → S0 t := fun t k => p723 t (stc724.trans k)
      let Ls752 : Array Slot := #[.val (.int i0), .val (.int i1), .val (.int i2), .val (.int i3), .val (.int i4), .val (.int i5), .val (.int w2), .val (.int (1 : Int32)), .val (.int (own_isz (own_cmp3 i0 i1 i2 i3 i4 i0))), .val (.ref o45), .val (.long (2 : Int64)), .second, .val (.ref o14_c724), .unset, .unset]
      have p753 : ∀ t, St p e below Tc724 (mkF m 120 Ls752 [(.ref o45)]) t → S0 t := fun t k => p751 t (by
        refine XS.astore Xc724.here hx rfl (hb hby at_116) rfl rfl (l' := Ls752) rfl ?_
        refine XS.aload Xc724.here hx rfl (hb hby at_118) rfl rfl ?_
        exact k)
      obtain ⟨cqc754, kqc754, qc754a, qc754b, qc754c⟩ := isOf hZ rfl f_725
      obtain ⟨_, _, ⟨Tc754, Lc754, kc754, nc754⟩, -, Xc754, ⟨Lcc754, hQc754, lc754, yc754, zc754⟩, stc754⟩ := Xc724.virtualBack hx (y := M9) (z := M9) hown (mvT hZ (ww hw 71 rfl)) (mvT hZ (ww hw 72 rfl)) (notFace_of_selects (args := #[]) (mvT hZ (ww hw 74 rfl))) (mvT hZ (ww hw 74 rfl)) (mvT hZ (ww hw 73 rfl)) (by decide) (backOf (W := 0) (rm13_11 l Z a0 hw [] (1 : Int32) (1 : Int32) (2 : Int64) o45 o5_c57 o34_c57 o66_c57 Tc724.heap n0 O749  gb_o45 gn_o5_c57 gn_o34_c57 gn_o66_c57 ne_o45_o5_c57 ne_o45_o34_c57 ne_o45_o66_c57 nn_o5_c57_o34_c57 nn_o5_c57_o66_c57 nn_o34_c57_o66_c57 f_725 f_726 f_727 f_728 f_729 f_730 f_731) hZ (ww hw 75 rfl) (ww hw 2 rfl) (by decide) (by decide)) qc754a qc754c (g := (mkF m 120 Ls752 [(.ref o45)])) rfl (by rw [hml]; rfl) (Steps.refl _) (argsL := []) (rest := []) (lenOf pd0 rfl) rfl (by show 2 * 0 + _ ≤ _; exact Nat.le_of_eq rfl) (hb hby at_120) (fun _ _ => ⟨rfl, rfl, (by decide : 9 + 3 ≤ _), (by decide : 48 + 12 ≤ _)⟩)
      dsimp only [Pt.U, Pt.locs, Pt.cells, Pt.slots] at Xc754 lc754 yc754 zc754 stc754 hQc754
      subst lc754 yc754 zc754
      obtain ⟨Nqc754, hAc754⟩ := hQc754
      have Nc754 := Fr.app Nc724 Nqc754
      obtain ⟨o2_c754, o31_c754, o63_c754, k2_c754, k31_c754, k63_c754, rfl, Kcc754, gn_o2_c754, zn_o2_c754, gn_o31_c754, zn_o31_c754, gn_o63_c754, zn_o63_c754, nn_o2_c754_o31_c754, nn_o2_c754_o63_c754, nn_o31_c754_o63_c754, f_755, f_756, f_757, f_758, f_759, f_760, f_761, f_762, f_763, f_764, f_765, f_766, f_767, f_768⟩ := hAc754
      have ne_o5_c57_o2_c754 : o5_c57 ≠ o2_c754 := Nat.ne_of_lt (Nat.lt_of_lt_of_le V_741.lt zn_o2_c754)
      have ne_o66_c57_o2_c754 : o66_c57 ≠ o2_c754 := Nat.ne_of_lt (Nat.lt_of_lt_of_le V_743.lt zn_o2_c754)
      have ne_o34_c57_o2_c754 : o34_c57 ≠ o2_c754 := Nat.ne_of_lt (Nat.lt_of_lt_of_le V_745.lt zn_o2_c754)
      have ne_o9_c77_o2_c754 : o9_c77 ≠ o2_c754 := Nat.ne_of_lt (Nat.lt_of_lt_of_le V_747.lt zn_o2_c754)
      have ne_o45_o2_c754 : o45 ≠ o2_c754 := Nat.ne_of_lt (Nat.lt_of_lt_of_le f_725.lt zn_o2_c754)
      have ne_o14_c724_o2_c754 : o14_c724 ≠ o2_c754 := Nat.ne_of_lt (Nat.lt_of_lt_of_le f_732.lt zn_o2_c754)
      have ne_o67_c44_c724_o2_c754 : o67_c44_c724 ≠ o2_c754 := Nat.ne_of_lt (Nat.lt_of_lt_of_le f_739.lt zn_o2_c754)
      have ne_o5_c57_o31_c754 : o5_c57 ≠ o31_c754 := Nat.ne_of_lt (Nat.lt_of_lt_of_le V_741.lt zn_o31_c754)
      have ne_o66_c57_o31_c754 : o66_c57 ≠ o31_c754 := Nat.ne_of_lt (Nat.lt_of_lt_of_le V_743.lt zn_o31_c754)
      have ne_o34_c57_o31_c754 : o34_c57 ≠ o31_c754 := Nat.ne_of_lt (Nat.lt_of_lt_of_le V_745.lt zn_o31_c754)
      have ne_o9_c77_o31_c754 : o9_c77 ≠ o31_c754 := Nat.ne_of_lt (Nat.lt_of_lt_of_le V_747.lt zn_o31_c754)
      have ne_o45_o31_c754 : o45 ≠ o31_c754 := Nat.ne_of_lt (Nat.lt_of_lt_of_le f_725.lt zn_o31_c754)
      have ne_o14_c724_o31_c754 : o14_c724 ≠ o31_c754 := Nat.ne_of_lt (Nat.lt_of_lt_of_le f_732.lt zn_o31_c754)
      have ne_o67_c44_c724_o31_c754 : o67_c44_c724 ≠ o31_c754 := Nat.ne_of_lt (Nat.lt_of_lt_of_le f_739.lt zn_o31_c754)
      have ne_o5_c57_o63_c754 : o5_c57 ≠ o63_c754 := Nat.ne_of_lt (Nat.lt_of_lt_of_le V_741.lt zn_o63_c754)
      have ne_o66_c57_o63_c754 : o66_c57 ≠ o63_c754 := Nat.ne_of_lt (Nat.lt_of_lt_of_le V_743.lt zn_o63_c754)
      have ne_o34_c57_o63_c754 : o34_c57 ≠ o63_c754 := Nat.ne_of_lt (Nat.lt_of_lt_of_le V_745.lt zn_o63_c754)
      have ne_o9_c77_o63_c754 : o9_c77 ≠ o63_c754 := Nat.ne_of_lt (Nat.lt_of_lt_of_le V_747.lt zn_o63_c754)
      have ne_o45_o63_c754 : o45 ≠ o63_c754 := Nat.ne_of_lt (Nat.lt_of_lt_of_le f_725.lt zn_o63_c754)
      have ne_o14_c724_o63_c754 : o14_c724 ≠ o63_c754 := Nat.ne_of_lt (Nat.lt_of_lt_of_le f_732.lt zn_o63_c754)
      have ne_o67_c44_c724_o63_c754 : o67_c44_c724 ≠ o63_c754 := Nat.ne_of_lt (Nat.lt_of_lt_of_le f_739.lt zn_o63_c754)
      have sz_o2_c754 : h0.size ≤ o2_c754 := Nat.le_trans (K750).1 zn_o2_c754
      have sz_o31_c754 : h0.size ≤ o31_c754 := Nat.le_trans (K750).1 zn_o31_c754
      have sz_o63_c754 : h0.size ≤ o63_c754 := Nat.le_trans (K750).1 zn_o63_c754
      have V_769 := V_741.keep Kcc754 (ninS (Ne.symm ne_o45_o5_c57) nin0)
      have E_770 := E_742.keep Kcc754
      have V_771 := V_743.keep Kcc754 (ninS (Ne.symm ne_o45_o66_c57) nin0)
      have E_772 := E_744.keep Kcc754
      have V_773 := V_745.keep Kcc754 (ninS (Ne.symm ne_o45_o34_c57) nin0)
      have E_774 := E_746.keep Kcc754
      have V_775 := V_747.keep Kcc754 (ninS (Ne.symm ne_o45_o9_c77) nin0)
      have E_776 := E_748.keep Kcc754
      have E_777 := f_732.keep Kcc754
      have F_778 := f_733.keep Kcc754 (ninS (Ne.symm ne_o45_o14_c724) nin0)
      have F_779 := f_734.keep Kcc754 (ninS (Ne.symm ne_o45_o14_c724) nin0)
      have F_780 := f_735.keep Kcc754 (ninS (Ne.symm ne_o45_o14_c724) nin0)
      have F_781 := f_736.keep Kcc754 (ninS (Ne.symm ne_o45_o14_c724) nin0)
      have F_782 := f_737.keep Kcc754 (ninS (Ne.symm ne_o45_o14_c724) nin0)
      have F_783 := f_738.keep Kcc754 (ninS (Ne.symm ne_o45_o14_c724) nin0)
      have V_784 := f_739.keep Kcc754 (ninS (Ne.symm ne_o45_o67_c44_c724) nin0)
      have E_785 := f_740.keep Kcc754
      have O786 := O749.keep Kcc754 (allS gb_o45 all0)
      have K787 := Keep.trans K750 Kcc754 (allS (Or.inr sz_o45) all0)
      have p788 : ∀ t, St p e below Tc754 (mkF m 123 Ls752 []) t → S0 t := fun t k => p753 t (stc754.trans k)
      have p789 : ∀ t, St p e below Tc754 (mkF m 125 Ls752 [(.ref o45)]) t → S0 t := fun t k => p788 t (by
        refine XS.aload Xc754.here hx rfl (hb hby at_123) rfl rfl ?_
        exact k)
      obtain ⟨cqc790, kqc790, qc790a, qc790b, qc790c⟩ := isOf hZ rfl f_755
      obtain ⟨_, _, ⟨Tc790, Lc790, kc790, nc790⟩, -, Xc790, ⟨Lcc790, hQc790, lc790, yc790, zc790⟩, stc790⟩ := Xc754.virtualBack hx (y := M10) (z := M10) hown (mvT hZ (ww hw 76 rfl)) (mvT hZ (ww hw 77 rfl)) (notFace_of_selects (args := #[]) (mvT hZ (ww hw 79 rfl))) (mvT hZ (ww hw 79 rfl)) (mvT hZ (ww hw 78 rfl)) (by decide) (backOf (W := 0) (rm14_12 l Z a0 hw [] (0 : Int64) o45 Tc754.heap n0 O786  gb_o45 f_755 f_761) hZ (ww hw 80 rfl) (ww hw 2 rfl) (by decide) (by decide)) qc790a qc790c (g := (mkF m 125 Ls752 [(.ref o45)])) rfl (by rw [hml]; rfl) (Steps.refl _) (argsL := []) (rest := []) (lenOf pd8 rfl) rfl (by show 2 * 0 + _ ≤ _; exact Nat.le_of_eq rfl) (hb hby at_125) (fun _ _ => ⟨rfl, rfl, (by decide : 12 + 0 ≤ _), (by decide : 60 + 0 ≤ _)⟩)
      dsimp only [Pt.U, Pt.locs, Pt.cells, Pt.slots] at Xc790 lc790 yc790 zc790 stc790 hQc790
      subst lc790 yc790 zc790
      obtain ⟨Nqc790, ec790, hAc790⟩ := hQc790
      have Nc790 := Fr.app Nc754 Nqc790
      obtain rfl := hAc790
      have p791 : ∀ t, St p e below Tc790 (mkF m 128 Ls752 [(.long (0 : Int64))]) t → S0 t := fun t k => p789 t (stc790.trans k)
      have p792 : ∀ t, St p e below Tc790 (mkF m 138 Ls752 [(.int i2), (.int i1), (.int i0), (.ref o45)]) t → S0 t := fun t k => p791 t (by
        refine XT.lconstV Xc790.here hx rfl (0 : Int64) (hb hby at_128) (by decide) ?_
        refine XS.lcmp Xc790.here hx rfl (hb hby at_129) rfl ?_
        refine XS.ifNo Xc790.here hx rfl (hb hby at_130) rfl ((if0 _ _).trans (teq (by decide : (0 : Int32) = (0 : Int32))).2) ?_
        refine XS.aload Xc790.here hx rfl (hb hby at_133) rfl rfl ?_
        refine XS.iloadN Xc790.here hx rfl (hb hby at_135) rfl ?_
        show St p e below Tc790 (mkF m 136 Ls752 [(.int i0), (.ref o45)]) t
        refine XS.iloadN Xc790.here hx rfl (hb hby at_136) rfl ?_
        refine XS.iloadN Xc790.here hx rfl (hb hby at_137) rfl ?_
        exact k)
      obtain ⟨cqc793, kqc793, qc793a, qc793b, qc793c⟩ := isOf hZ ec790 f_755
      obtain ⟨_, _, ⟨Tc793, Lc793, kc793, nc793⟩, -, Xc793, ⟨Lcc793, hQc793, lc793, yc793, zc793⟩, stc793⟩ := Xc790.virtualBack hx (y := M11) (z := M11) hown (mvT hZ (ww hw 81 rfl)) (mvT hZ (ww hw 82 rfl)) (notFace_of_selects (args := #[]) (mvT hZ (ww hw 84 rfl))) (mvT hZ (ww hw 84 rfl)) (mvT hZ (ww hw 83 rfl)) (by decide) (backOf (W := 0) (rm15_13 l Z a0 hw [] i0 i1 i2 o45 o2_c754 o31_c754 k2_c754 k31_c754 Tc754.heap n0 O786  gb_o45 gn_o2_c754 gn_o31_c754 ne_o45_o2_c754 ne_o45_o31_c754 nn_o2_c754_o31_c754 f_755 f_756 f_757 f_760 f_762 f_763 f_765 f_766) hZ (ww hw 85 rfl) (ww hw 2 rfl) (by decide) (by decide)) qc793a qc793c (g := (mkF m 138 Ls752 [(.int i2), (.int i1), (.int i0), (.ref o45)])) rfl (by rw [hml]; rfl) (Steps.refl _) (argsL := [(.int i0), (.int i1), (.int i2)]) (rest := []) (lenOf pd5 rfl) rfl (by show 2 * 0 + _ ≤ _; exact Nat.le_of_eq rfl) (hb hby at_138) (fun _ _ => ⟨rfl, ec790, (by decide : 12 + 0 ≤ _), (by decide : 60 + 0 ≤ _)⟩)
      dsimp only [Pt.U, Pt.locs, Pt.cells, Pt.slots] at Xc793 lc793 yc793 zc793 stc793 hQc793
      subst lc793 yc793 zc793
      obtain ⟨Nqc793, ec793, hAc793⟩ := hQc793
      have Nc793 := Fr.app Nc790 Nqc793
      obtain rfl := hAc793
      have p794 : ∀ t, St p e below Tc793 (mkF m 141 Ls752 [(.int (0 : Int32))]) t → S0 t := fun t k => p792 t (stc793.trans k)
      have p795 : ∀ t, St p e below Tc793 (mkF m 150 Ls752 [(.int i0), (.int i4), (.int i3), (.ref o45)]) t → S0 t := fun t k => p794 t (by
        refine XS.ifNo Xc793.here hx rfl (hb hby at_141) rfl ((if0 _ _).trans (teq (by decide : (0 : Int32) = (0 : Int32))).2) ?_
        refine XS.aload Xc793.here hx rfl (hb hby at_144) rfl rfl ?_
        refine XS.iloadN Xc793.here hx rfl (hb hby at_146) rfl ?_
        refine XS.iload Xc793.here hx rfl (hb hby at_147) rfl ?_
        refine XS.iloadN Xc793.here hx rfl (hb hby at_149) rfl ?_
        exact k)
      obtain ⟨cqc796, kqc796, qc796a, qc796b, qc796c⟩ := isOf hZ ec793 f_755
      obtain ⟨_, _, ⟨Tc796, Lc796, kc796, nc796⟩, -, Xc796, ⟨Lcc796, hQc796, lc796, yc796, zc796⟩, stc796⟩ := Xc793.virtualBack hx (y := M11) (z := M11) hown (mvT hZ (ww hw 81 rfl)) (mvT hZ (ww hw 82 rfl)) (notFace_of_selects (args := #[]) (mvT hZ (ww hw 84 rfl))) (mvT hZ (ww hw 84 rfl)) (mvT hZ (ww hw 83 rfl)) (by decide) (backOf (W := 0) (rm15_13 l Z a0 hw [] i3 i4 i0 o45 o2_c754 o31_c754 k2_c754 k31_c754 Tc754.heap n0 O786  gb_o45 gn_o2_c754 gn_o31_c754 ne_o45_o2_c754 ne_o45_o31_c754 nn_o2_c754_o31_c754 f_755 f_756 f_757 f_760 f_762 f_763 f_765 f_766) hZ (ww hw 85 rfl) (ww hw 2 rfl) (by decide) (by decide)) qc796a qc796c (g := (mkF m 150 Ls752 [(.int i0), (.int i4), (.int i3), (.ref o45)])) rfl (by rw [hml]; rfl) (Steps.refl _) (argsL := [(.int i3), (.int i4), (.int i0)]) (rest := []) (lenOf pd5 rfl) rfl (by show 2 * 0 + _ ≤ _; exact Nat.le_of_eq rfl) (hb hby at_150) (fun _ _ => ⟨rfl, ec793, (by decide : 12 + 0 ≤ _), (by decide : 60 + 0 ≤ _)⟩)
      dsimp only [Pt.U, Pt.locs, Pt.cells, Pt.slots] at Xc796 lc796 yc796 zc796 stc796 hQc796
      subst lc796 yc796 zc796
      obtain ⟨Nqc796, ec796, hAc796⟩ := hQc796
      have Nc796 := Fr.app Nc793 Nqc796
      obtain rfl := hAc796
      have p797 : ∀ t, St p e below Tc796 (mkF m 153 Ls752 [(.int (0 : Int32))]) t → S0 t := fun t k => p795 t (stc796.trans k)
      let Ls798 : Array Slot := #[.val (.int i0), .val (.int i1), .val (.int i2), .val (.int i3), .val (.int i4), .val (.int i5), .val (.int w2), .val (.int (1 : Int32)), .val (.int (own_isz (own_cmp3 i0 i1 i2 i3 i4 i0))), .val (.ref o45), .val (.long (2 : Int64)), .second, .val (.ref o14_c724), .val (.int (1 : Int32)), .unset]
      have p799 : ∀ t, St p e below Tc796 (mkF m 169 Ls798 [(.int i0), (.int i4), (.int i3), (.ref o45)]) t → S0 t := fun t k => p797 t (by
        refine XS.ifNo Xc796.here hx rfl (hb hby at_153) rfl ((if0 _ _).trans (teq (by decide : (0 : Int32) = (0 : Int32))).2) ?_
        refine XT.iconstV Xc796.here hx rfl (1 : Int32) (hb hby at_156) (by decide) ?_
        refine XS.goto Xc796.here hx rfl (pc0 := 157) (pc' := 161) rfl (hb hby at_157) (by decide) (by decide) ?_
        refine XS.istore Xc796.here hx rfl (hb hby at_161) rfl (l' := Ls798) rfl ?_
        refine XS.aload Xc796.here hx rfl (hb hby at_163) rfl rfl ?_
        show St p e below Tc796 (mkF m 165 Ls798 [(.ref o45)]) t
        refine XS.iloadN Xc796.here hx rfl (hb hby at_165) rfl ?_
        refine XS.iload Xc796.here hx rfl (hb hby at_166) rfl ?_
        refine XS.iloadN Xc796.here hx rfl (hb hby at_168) rfl ?_
        exact k)
      obtain ⟨cqc800, kqc800, qc800a, qc800b, qc800c⟩ := isOf hZ ec796 f_755
      obtain ⟨_, _, ⟨Tc800, Lc800, kc800, nc800⟩, -, Xc800, ⟨Lcc800, hQc800, lc800, yc800, zc800⟩, stc800⟩ := Xc796.virtualBack hx (y := M6) (z := M6) hown (mvT hZ (ww hw 19 rfl)) (mvT hZ (ww hw 20 rfl)) (notFace_of_selects (args := #[]) (mvT hZ (ww hw 22 rfl))) (mvT hZ (ww hw 22 rfl)) (mvT hZ (ww hw 21 rfl)) (by decide) (backOf (W := 0) (rm3_1 l Z a0 hw [] i3 i4 i0 o45 o2_c754 o31_c754 o63_c754 k2_c754 k31_c754 k63_c754 Tc754.heap n0 O786  gb_o45 gn_o2_c754 gn_o31_c754 gn_o63_c754 ne_o45_o2_c754 ne_o45_o31_c754 ne_o45_o63_c754 nn_o2_c754_o31_c754 nn_o2_c754_o63_c754 nn_o31_c754_o63_c754 f_755 f_756 f_757 f_758 f_759 f_760 f_761 f_762 f_763 f_764 f_765 f_766 f_767 f_768) hZ (ww hw 23 rfl) (ww hw 2 rfl) (by decide) (by decide)) qc800a qc800c (g := (mkF m 169 Ls798 [(.int i0), (.int i4), (.int i3), (.ref o45)])) rfl (by rw [hml]; rfl) (Steps.refl _) (argsL := [(.int i3), (.int i4), (.int i0)]) (rest := []) (lenOf pd5 rfl) rfl (by show 2 * 0 + _ ≤ _; exact Nat.le_of_eq rfl) (hb hby at_169) (fun _ _ => ⟨rfl, ec796, (by decide : 12 + 1 ≤ _), (by decide : 60 + 12 ≤ _)⟩)
      dsimp only [Pt.U, Pt.locs, Pt.cells, Pt.slots] at Xc800 lc800 yc800 zc800 stc800 hQc800
      subst lc800 yc800 zc800
      obtain ⟨Nqc800, hAc800⟩ := hQc800
      have Nc800 := Fr.app Nc796 Nqc800
      obtain ⟨o9_c800, k9_c800, rfl, Kcc800, gn_o9_c800, zn_o9_c800, f_801, f_802, f_803, f_804, f_805, f_806, f_807, f_808, f_809, f_810, f_811, f_812, f_813, f_814, f_815, f_816⟩ := hAc800
      have ne_o5_c57_o9_c800 : o5_c57 ≠ o9_c800 := Nat.ne_of_lt (Nat.lt_of_lt_of_le V_769.lt zn_o9_c800)
      have ne_o34_c57_o9_c800 : o34_c57 ≠ o9_c800 := Nat.ne_of_lt (Nat.lt_of_lt_of_le V_773.lt zn_o9_c800)
      have ne_o9_c77_o9_c800 : o9_c77 ≠ o9_c800 := Nat.ne_of_lt (Nat.lt_of_lt_of_le V_775.lt zn_o9_c800)
      have ne_o14_c724_o9_c800 : o14_c724 ≠ o9_c800 := Nat.ne_of_lt (Nat.lt_of_lt_of_le E_777.lt zn_o9_c800)
      have ne_o67_c44_c724_o9_c800 : o67_c44_c724 ≠ o9_c800 := Nat.ne_of_lt (Nat.lt_of_lt_of_le V_784.lt zn_o9_c800)
      have ne_o45_o9_c800 : o45 ≠ o9_c800 := Nat.ne_of_lt (Nat.lt_of_lt_of_le f_755.lt zn_o9_c800)
      have ne_o2_c754_o9_c800 : o2_c754 ≠ o9_c800 := Nat.ne_of_lt (Nat.lt_of_lt_of_le f_762.lt zn_o9_c800)
      have ne_o31_c754_o9_c800 : o31_c754 ≠ o9_c800 := Nat.ne_of_lt (Nat.lt_of_lt_of_le f_765.lt zn_o9_c800)
      have ne_o63_c754_o9_c800 : o63_c754 ≠ o9_c800 := Nat.ne_of_lt (Nat.lt_of_lt_of_le f_767.lt zn_o9_c800)
      have sz_o9_c800 : h0.size ≤ o9_c800 := Nat.le_trans (K787).1 zn_o9_c800
      have V_817 := V_769.keep Kcc800 (ninS (Ne.symm ne_o45_o5_c57) (ninS ne_o5_c57_o63_c754 (ninS ne_o5_c57_o31_c754 (ninS ne_o5_c57_o2_c754 nin0))))
      have E_818 := E_770.keep Kcc800
      have V_819 := V_773.keep Kcc800 (ninS (Ne.symm ne_o45_o34_c57) (ninS ne_o34_c57_o63_c754 (ninS ne_o34_c57_o31_c754 (ninS ne_o34_c57_o2_c754 nin0))))
      have E_820 := E_774.keep Kcc800
      have V_821 := V_775.keep Kcc800 (ninS (Ne.symm ne_o45_o9_c77) (ninS ne_o9_c77_o63_c754 (ninS ne_o9_c77_o31_c754 (ninS ne_o9_c77_o2_c754 nin0))))
      have E_822 := E_776.keep Kcc800
      have E_823 := E_777.keep Kcc800
      have F_824 := F_778.keep Kcc800 (ninS (Ne.symm ne_o45_o14_c724) (ninS ne_o14_c724_o63_c754 (ninS ne_o14_c724_o31_c754 (ninS ne_o14_c724_o2_c754 nin0))))
      have F_825 := F_779.keep Kcc800 (ninS (Ne.symm ne_o45_o14_c724) (ninS ne_o14_c724_o63_c754 (ninS ne_o14_c724_o31_c754 (ninS ne_o14_c724_o2_c754 nin0))))
      have F_826 := F_780.keep Kcc800 (ninS (Ne.symm ne_o45_o14_c724) (ninS ne_o14_c724_o63_c754 (ninS ne_o14_c724_o31_c754 (ninS ne_o14_c724_o2_c754 nin0))))
      have F_827 := F_781.keep Kcc800 (ninS (Ne.symm ne_o45_o14_c724) (ninS ne_o14_c724_o63_c754 (ninS ne_o14_c724_o31_c754 (ninS ne_o14_c724_o2_c754 nin0))))
      have F_828 := F_782.keep Kcc800 (ninS (Ne.symm ne_o45_o14_c724) (ninS ne_o14_c724_o63_c754 (ninS ne_o14_c724_o31_c754 (ninS ne_o14_c724_o2_c754 nin0))))
      have F_829 := F_783.keep Kcc800 (ninS (Ne.symm ne_o45_o14_c724) (ninS ne_o14_c724_o63_c754 (ninS ne_o14_c724_o31_c754 (ninS ne_o14_c724_o2_c754 nin0))))
      have V_830 := V_784.keep Kcc800 (ninS (Ne.symm ne_o45_o67_c44_c724) (ninS ne_o67_c44_c724_o63_c754 (ninS ne_o67_c44_c724_o31_c754 (ninS ne_o67_c44_c724_o2_c754 nin0))))
      have E_831 := E_785.keep Kcc800
      have O832 := O786.keep Kcc800 (allS gb_o45 (allS gn_o63_c754 (allS gn_o31_c754 (allS gn_o2_c754 all0))))
      have K833 := Keep.trans K787 Kcc800 (allS (Or.inr sz_o45) (allS (Or.inr sz_o63_c754) (allS (Or.inr sz_o31_c754) (allS (Or.inr sz_o2_c754) all0))))
      have p834 : ∀ t, St p e below Tc800 (mkF m 172 Ls798 [(.int (1 : Int32))]) t → S0 t := fun t k => p799 t (stc800.trans k)
      let Ls835 : Array Slot := #[.val (.int i0), .val (.int i1), .val (.int i2), .val (.int i3), .val (.int i4), .val (.int i5), .val (.int w2), .val (.int (1 : Int32)), .val (.int (own_isz (own_cmp3 i0 i1 i2 i3 i4 i0))), .val (.ref o45), .val (.long (2 : Int64)), .second, .val (.ref o14_c724), .val (.int (1 : Int32)), .val (.int (1 : Int32))]
      have p836 : ∀ t, St p e below Tc800 (mkF m 186 Ls835 [(.ref o45)]) t → S0 t := fun t k => p834 t (by
        refine XS.istore Xc800.here hx rfl (hb hby at_172) rfl (l' := Ls835) rfl ?_
        refine XS.iload Xc800.here hx rfl (hb hby at_174) rfl ?_
        refine XS.ifNo Xc800.here hx rfl (hb hby at_176) rfl ((if0 _ _).trans (feq (by decide : ¬ ((1 : Int32) = (0 : Int32)))).1) ?_
        refine XS.iload Xc800.here hx rfl (hb hby at_179) rfl ?_
        refine XS.ifNo Xc800.here hx rfl (hb hby at_181) rfl ((if0 _ _).trans (feq (by decide : ¬ ((1 : Int32) = (0 : Int32)))).1) ?_
        show St p e below Tc800 (mkF m 184 Ls835 []) t
        refine XS.aload Xc800.here hx rfl (hb hby at_184) rfl rfl ?_
        exact k)
      obtain ⟨cqc837, kqc837, qc837a, qc837b, qc837c⟩ := isOf hZ rfl f_803
      obtain ⟨_, _, ⟨Tc837, Lc837, kc837, nc837⟩, -, Xc837, ⟨Lcc837, hQc837, lc837, yc837, zc837⟩, stc837⟩ := Xc800.virtualBack hx (y := M10) (z := M10) hown (mvT hZ (ww hw 76 rfl)) (mvT hZ (ww hw 77 rfl)) (notFace_of_selects (args := #[]) (mvT hZ (ww hw 79 rfl))) (mvT hZ (ww hw 79 rfl)) (mvT hZ (ww hw 78 rfl)) (by decide) (backOf (W := 0) (rm14_12 l Z a0 hw [] (1 : Int64) o45 Tc800.heap n0 O832  gb_o45 f_803 f_809) hZ (ww hw 80 rfl) (ww hw 2 rfl) (by decide) (by decide)) qc837a qc837c (g := (mkF m 186 Ls835 [(.ref o45)])) rfl (by rw [hml]; rfl) (Steps.refl _) (argsL := []) (rest := []) (lenOf pd8 rfl) rfl (by show 2 * 0 + _ ≤ _; exact Nat.le_of_eq rfl) (hb hby at_186) (fun _ _ => ⟨rfl, rfl, (by decide : 13 + 0 ≤ _), (by decide : 72 + 0 ≤ _)⟩)
      dsimp only [Pt.U, Pt.locs, Pt.cells, Pt.slots] at Xc837 lc837 yc837 zc837 stc837 hQc837
      subst lc837 yc837 zc837
      obtain ⟨Nqc837, ec837, hAc837⟩ := hQc837
      have Nc837 := Fr.app Nc800 Nqc837
      obtain rfl := hAc837
      have p838 : ∀ t, St p e below Tc837 (mkF m 189 Ls835 [(.long (1 : Int64))]) t → S0 t := fun t k => p836 t (stc837.trans k)
      have p839 : ∀ t, St p e below Tc837 (mkF m 194 Ls835 []) t → S0 t := fun t k => p838 t (by
        refine XT.lconstV Xc837.here hx rfl (1 : Int64) (hb hby at_189) (by decide) ?_
        refine XS.lcmp Xc837.here hx rfl (hb hby at_190) rfl ?_
        refine XS.ifNo Xc837.here hx rfl (hb hby at_191) rfl ((if0 _ _).trans (teq (by decide : (0 : Int32) = (0 : Int32))).2) ?_
        exact k)
      obtain ⟨Tj840, Lj840, Xj840, ej840, Nj840, pj840⟩ : ∃  (Tj840 : State) (Lj840 : List Loc), Stand p l e room_1 s m #[(.int i0), (.int i1), (.int i2), (.int i3), (.int i4), (.int i5)] below meth c Tj840 Lj840 13 72 ∧ Tj840.heap = Tc800.heap ∧ Fr n0 Lj840 ∧ ∀ t, St p e below Tj840 (mkF m 226 #[.val (.int i0), .val (.int i1), .val (.int i2), .val (.int i3), .val (.int i4), .val (.int i5), .val (.int w2), .val (.int (1 : Int32)), .val (.int (0 : Int32)), .val (.ref o45), .val (.long (2 : Int64)), .second, .val (.ref o14_c724), .val (.int (1 : Int32)), .val (.int (1 : Int32))] []) t → S0 t := by
       have p841 : ∀ t, St p e below Tc837 (mkF m 200 Ls835 [(.int i0), (.int i4), (.int i3), (.ref o45)]) t → S0 t := fun t k => p839 t (by
         refine XS.aload Xc837.here hx rfl (hb hby at_194) rfl rfl ?_
         refine XS.iloadN Xc837.here hx rfl (hb hby at_196) rfl ?_
         refine XS.iload Xc837.here hx rfl (hb hby at_197) rfl ?_
         refine XS.iloadN Xc837.here hx rfl (hb hby at_199) rfl ?_
         exact k)
       obtain ⟨cqc842, kqc842, qc842a, qc842b, qc842c⟩ := isOf hZ ec837 f_803
       obtain ⟨_, _, ⟨Tc842, Lc842, kc842, nc842⟩, -, Xc842, ⟨Lcc842, hQc842, lc842, yc842, zc842⟩, stc842⟩ := Xc837.virtualBack hx (y := M11) (z := M11) hown (mvT hZ (ww hw 81 rfl)) (mvT hZ (ww hw 82 rfl)) (notFace_of_selects (args := #[]) (mvT hZ (ww hw 84 rfl))) (mvT hZ (ww hw 84 rfl)) (mvT hZ (ww hw 83 rfl)) (by decide) (backOf (W := 0) (rm15_14 l Z a0 hw [] i3 i4 i0 i3 i4 i0 (0 : Int32) (0 : Int32) (0 : Int32) (0 : Int32) (0 : Int32) (0 : Int32) (0 : Int32) (0 : Int32) (0 : Int32) o45 o2_c754 o31_c754 o9_c800 k2_c754 k31_c754 k9_c800 Tc800.heap n0 O832  gb_o45 gn_o2_c754 gn_o31_c754 gn_o9_c800 ne_o45_o2_c754 ne_o45_o31_c754 ne_o45_o9_c800 nn_o2_c754_o31_c754 ne_o2_c754_o9_c800 ne_o31_c754_o9_c800 f_803 f_804 f_805 f_808 f_810 f_811 f_813 f_814 f_801 f_802) hZ (ww hw 85 rfl) (ww hw 2 rfl) (by decide) (by decide)) qc842a qc842c (g := (mkF m 200 Ls835 [(.int i0), (.int i4), (.int i3), (.ref o45)])) rfl (by rw [hml]; rfl) (Steps.refl _) (argsL := [(.int i3), (.int i4), (.int i0)]) (rest := []) (lenOf pd5 rfl) rfl (by show 2 * 0 + _ ≤ _; exact Nat.le_of_eq rfl) (hb hby at_200) (fun _ _ => ⟨rfl, ec837, (by decide : 13 + 0 ≤ _), (by decide : 72 + 0 ≤ _)⟩)
       dsimp only [Pt.U, Pt.locs, Pt.cells, Pt.slots] at Xc842 lc842 yc842 zc842 stc842 hQc842
       subst lc842 yc842 zc842
       obtain ⟨Nqc842, ec842, hAc842⟩ := hQc842
       have Nc842 := Fr.app Nc837 Nqc842
       rcases hAc842 with ⟨rfl, g843⟩ | ⟨rfl, g844, g845⟩ | ⟨rfl, g846, g847⟩
       ·
        exact (ar7 g843).elim
       ·
        exact (ar8 g845).elim
       ·
        have p848 : ∀ t, St p e below Tc842 (mkF m 203 Ls835 [(.int (1 : Int32))]) t → S0 t := fun t k => p841 t (stc842.trans k)
        have p849 : ∀ t, St p e below Tc842 (mkF m 211 Ls835 [(.int i2), (.int i1), (.int i0), (.ref o45)]) t → S0 t := fun t k => p848 t (by
          refine XS.ifNo Xc842.here hx rfl (hb hby at_203) rfl ((if0 _ _).trans (feq (by decide : ¬ ((1 : Int32) = (0 : Int32)))).1) ?_
          refine XS.aload Xc842.here hx rfl (hb hby at_206) rfl rfl ?_
          refine XS.iloadN Xc842.here hx rfl (hb hby at_208) rfl ?_
          refine XS.iloadN Xc842.here hx rfl (hb hby at_209) rfl ?_
          refine XS.iloadN Xc842.here hx rfl (hb hby at_210) rfl ?_
          exact k)
        obtain ⟨cqc850, kqc850, qc850a, qc850b, qc850c⟩ := isOf hZ ec842 f_803
        obtain ⟨_, _, ⟨Tc850, Lc850, kc850, nc850⟩, -, Xc850, ⟨Lcc850, hQc850, lc850, yc850, zc850⟩, stc850⟩ := Xc842.virtualBack hx (y := M11) (z := M11) hown (mvT hZ (ww hw 81 rfl)) (mvT hZ (ww hw 82 rfl)) (notFace_of_selects (args := #[]) (mvT hZ (ww hw 84 rfl))) (mvT hZ (ww hw 84 rfl)) (mvT hZ (ww hw 83 rfl)) (by decide) (backOf (W := 0) (rm15_14 l Z a0 hw [] i0 i1 i2 i3 i4 i0 (0 : Int32) (0 : Int32) (0 : Int32) (0 : Int32) (0 : Int32) (0 : Int32) (0 : Int32) (0 : Int32) (0 : Int32) o45 o2_c754 o31_c754 o9_c800 k2_c754 k31_c754 k9_c800 Tc800.heap n0 O832  gb_o45 gn_o2_c754 gn_o31_c754 gn_o9_c800 ne_o45_o2_c754 ne_o45_o31_c754 ne_o45_o9_c800 nn_o2_c754_o31_c754 ne_o2_c754_o9_c800 ne_o31_c754_o9_c800 f_803 f_804 f_805 f_808 f_810 f_811 f_813 f_814 f_801 f_802) hZ (ww hw 85 rfl) (ww hw 2 rfl) (by decide) (by decide)) qc850a qc850c (g := (mkF m 211 Ls835 [(.int i2), (.int i1), (.int i0), (.ref o45)])) rfl (by rw [hml]; rfl) (Steps.refl _) (argsL := [(.int i0), (.int i1), (.int i2)]) (rest := []) (lenOf pd5 rfl) rfl (by show 2 * 0 + _ ≤ _; exact Nat.le_of_eq rfl) (hb hby at_211) (fun _ _ => ⟨rfl, ec842, (by decide : 13 + 0 ≤ _), (by decide : 72 + 0 ≤ _)⟩)
        dsimp only [Pt.U, Pt.locs, Pt.cells, Pt.slots] at Xc850 lc850 yc850 zc850 stc850 hQc850
        subst lc850 yc850 zc850
        obtain ⟨Nqc850, ec850, hAc850⟩ := hQc850
        have Nc850 := Fr.app Nc842 Nqc850
        rcases hAc850 with ⟨rfl, g851⟩ | ⟨rfl, g852, g853⟩ | ⟨rfl, g854, g855⟩
        ·
         have p856 : ∀ t, St p e below Tc850 (mkF m 214 Ls835 [(.int (0 : Int32))]) t → S0 t := fun t k => p849 t (stc850.trans k)
         have p857 : ∀ t, St p e below Tc850 (mkF m 216 Ls835 [(.int (own_isz (own_cmp3 i0 i1 i2 i3 i4 i0))), (.int (0 : Int32))]) t → S0 t := fun t k => p856 t (by
           refine XS.iload Xc850.here hx rfl (hb hby at_214) rfl ?_
           exact k)
         let Ls859 : Array Slot := #[.val (.int i0), .val (.int i1), .val (.int i2), .val (.int i3), .val (.int i4), .val (.int i5), .val (.int w2), .val (.int (1 : Int32)), .val (.int (0 : Int32)), .val (.ref o45), .val (.long (2 : Int64)), .second, .val (.ref o14_c724), .val (.int (1 : Int32)), .val (.int (1 : Int32))]
         have p858 : ∀ t, St p e below Tc850 (mkF m 216 Ls859 [(.int (0 : Int32)), (.int (0 : Int32))]) t → S0 t := fun t k => p857 t (by show St p e below Tc850 (mkF m 216 #[.val (.int i0), .val (.int i1), .val (.int i2), .val (.int i3), .val (.int i4), .val (.int i5), .val (.int w2), .val (.int (1 : Int32)), .val (.int (own_isz (own_cmp3 i0 i1 i2 i3 i4 i0))), .val (.ref o45), .val (.long (2 : Int64)), .second, .val (.ref o14_c724), .val (.int (1 : Int32)), .val (.int (1 : Int32))] [(.int (own_isz (own_cmp3 i0 i1 i2 i3 i4 i0))), (.int (0 : Int32))]) t; rw [g720]; exact k)
         have p860 : ∀ t, St p e below Tc850 (mkF m 226 Ls859 []) t → S0 t := fun t k => p858 t (by
           refine XS.icmpNo Xc850.here hx rfl (hb hby at_216) rfl (teq (by decide : (0 : Int32) = (0 : Int32))).2 ?_
           refine XT.iconstV Xc850.here hx rfl (1 : Int32) (hb hby at_219) (by decide) ?_
           refine XS.goto Xc850.here hx rfl (pc0 := 220) (pc' := 224) rfl (hb hby at_220) (by decide) (by decide) ?_
           refine XS.istore Xc850.here hx rfl (hb hby at_224) rfl (l' := Ls859) rfl ?_
           exact k)
         exact ⟨_, _, Xc850, ec850, Nc850, p860⟩
        ·
         exact (ar14 g498 g853).elim
        ·
         exact (ar15 g499 g854).elim
      let Ls861 : Array Slot := #[.val (.int i0), .val (.int i1), .val (.int i2), .val (.int i3), .val (.int i4), .val (.int i5), .val (.int w2), .val (.int (1 : Int32)), .val (.int (0 : Int32)), .val (.ref o45), .val (.long (2 : Int64)), .second, .val (.ref o14_c724), .val (.int (1 : Int32)), .val (.int (1 : Int32))]
      have p862 : ∀ t, St p e below Tj840 (mkF m 238 Ls861 [(.ref o14_c724)]) t → S0 t := fun t k => pj840 t (by
        refine XS.iload Xj840.here hx rfl (hb hby at_226) rfl ?_
        refine XS.ifNo Xj840.here hx rfl (hb hby at_228) rfl ((if0 _ _).trans (feq (by decide : ¬ ((1 : Int32) = (0 : Int32)))).1) ?_
        refine XS.iload Xj840.here hx rfl (hb hby at_231) rfl ?_
        refine XS.ifNo Xj840.here hx rfl (hb hby at_233) rfl ((if0 _ _).trans (feq (by decide : ¬ ((1 : Int32) = (0 : Int32)))).1) ?_
        refine XS.aload Xj840.here hx rfl (hb hby at_236) rfl rfl ?_
        exact k)
      obtain ⟨cqc863, kqc863, qc863a, qc863b, qc863c⟩ := isOf hZ ej840 E_823
      obtain ⟨_, _, ⟨Tc863, Lc863, kc863, nc863⟩, -, Xc863, ⟨Lcc863, hQc863, lc863, yc863, zc863⟩, stc863⟩ := Xj840.virtualBack hx (y := M10) (z := M10) hown (mvT hZ (ww hw 76 rfl)) (mvT hZ (ww hw 77 rfl)) (notFace_of_selects (args := #[]) (mvT hZ (ww hw 79 rfl))) (mvT hZ (ww hw 79 rfl)) (mvT hZ (ww hw 78 rfl)) (by decide) (backOf (W := 0) (rm14_12 l Z a0 hw [] (2 : Int64) o14_c724 Tc800.heap n0 O832  gn_o14_c724 E_823 F_829) hZ (ww hw 80 rfl) (ww hw 2 rfl) (by decide) (by decide)) qc863a qc863c (g := (mkF m 238 Ls861 [(.ref o14_c724)])) rfl (by rw [hml]; rfl) (Steps.refl _) (argsL := []) (rest := []) (lenOf pd8 rfl) rfl (by show 2 * 0 + _ ≤ _; exact Nat.le_of_eq rfl) (hb hby at_238) (fun _ _ => ⟨rfl, ej840, (by decide : 13 + 0 ≤ _), (by decide : 72 + 0 ≤ _)⟩)
      dsimp only [Pt.U, Pt.locs, Pt.cells, Pt.slots] at Xc863 lc863 yc863 zc863 stc863 hQc863
      subst lc863 yc863 zc863
      obtain ⟨Nqc863, ec863, hAc863⟩ := hQc863
      have Nc863 := Fr.app Nj840 Nqc863
      obtain rfl := hAc863
      have p864 : ∀ t, St p e below Tc863 (mkF m 241 Ls861 [(.long (2 : Int64))]) t → S0 t := fun t k => p862 t (stc863.trans k)
      have p865 : ∀ t, St p e below Tc863 (mkF m 252 Ls861 [(.int i2), (.int i1), (.int i0), (.ref o14_c724)]) t → S0 t := fun t k => p864 t (by
        refine XS.lload Xc863.here hx rfl (hb hby at_241) rfl ?_
        refine XS.lcmp Xc863.here hx rfl (hb hby at_243) rfl ?_
        refine XS.ifNo Xc863.here hx rfl (hb hby at_244) rfl ((if0 _ _).trans (teq (by decide : (0 : Int32) = (0 : Int32))).2) ?_
        refine XS.aload Xc863.here hx rfl (hb hby at_247) rfl rfl ?_
        refine XS.iloadN Xc863.here hx rfl (hb hby at_249) rfl ?_
        show St p e below Tc863 (mkF m 250 Ls861 [(.int i0), (.ref o14_c724)]) t
        refine XS.iloadN Xc863.here hx rfl (hb hby at_250) rfl ?_
        refine XS.iloadN Xc863.here hx rfl (hb hby at_251) rfl ?_
        exact k)
      obtain ⟨cqc866, kqc866, qc866a, qc866b, qc866c⟩ := isOf hZ ec863 E_823
      obtain ⟨_, _, ⟨Tc866, Lc866, kc866, nc866⟩, -, Xc866, ⟨Lcc866, hQc866, lc866, yc866, zc866⟩, stc866⟩ := Xc863.virtualBack hx (y := M11) (z := M11) hown (mvT hZ (ww hw 81 rfl)) (mvT hZ (ww hw 82 rfl)) (notFace_of_selects (args := #[]) (mvT hZ (ww hw 84 rfl))) (mvT hZ (ww hw 84 rfl)) (mvT hZ (ww hw 83 rfl)) (by decide) (backOf (W := 0) (rm15_17 l Z a0 hw [] i0 i1 i2 i3 i4 i0 i0 i1 i2 (0 : Int32) (0 : Int32) (0 : Int32) (0 : Int32) (0 : Int32) (0 : Int32) o14_c724 o5_c57 o34_c57 o9_c77 k5_c57 k34_c57 k9_c77 Tc800.heap n0 O832  gn_o14_c724 gn_o5_c57 gn_o34_c57 gn_o9_c77 (Ne.symm ne_o5_c57_o14_c724) (Ne.symm ne_o34_c57_o14_c724) (Ne.symm ne_o9_c77_o14_c724) nn_o5_c57_o34_c57 ne_o5_c57_o9_c77 ne_o34_c57_o9_c77 E_823 F_824 F_825 F_828 V_817 E_818 V_819 E_820 V_821 E_822) hZ (ww hw 85 rfl) (ww hw 2 rfl) (by decide) (by decide)) qc866a qc866c (g := (mkF m 252 Ls861 [(.int i2), (.int i1), (.int i0), (.ref o14_c724)])) rfl (by rw [hml]; rfl) (Steps.refl _) (argsL := [(.int i0), (.int i1), (.int i2)]) (rest := []) (lenOf pd5 rfl) rfl (by show 2 * 0 + _ ≤ _; exact Nat.le_of_eq rfl) (hb hby at_252) (fun _ _ => ⟨rfl, ec863, (by decide : 13 + 0 ≤ _), (by decide : 72 + 0 ≤ _)⟩)
      dsimp only [Pt.U, Pt.locs, Pt.cells, Pt.slots] at Xc866 lc866 yc866 zc866 stc866 hQc866
      subst lc866 yc866 zc866
      obtain ⟨Nqc866, ec866, hAc866⟩ := hQc866
      have Nc866 := Fr.app Nc863 Nqc866
      rcases hAc866 with ⟨rfl, g867⟩ | ⟨rfl, g868, g869, g870⟩ | ⟨rfl, g871, g872, g873, g874⟩ | ⟨rfl, g875, g876, g877, g878⟩ | ⟨rfl, g879, g880⟩
      ·
       exact (ar7 g867).elim
      ·
       exact (ar8 g869).elim
      ·
       exact (ar8 g872).elim
      ·
       exact (ar8 g876).elim
      ·
       have p881 : ∀ t, St p e below Tc866 (mkF m 255 Ls861 [(.int (1 : Int32))]) t → S0 t := fun t k => p865 t (stc866.trans k)
       have p882 : ∀ t, St p e below Tc866 (mkF m 264 Ls861 [(.int i0), (.int i4), (.int i3), (.ref o14_c724)]) t → S0 t := fun t k => p881 t (by
         refine XS.ifNo Xc866.here hx rfl (hb hby at_255) rfl ((if0 _ _).trans (feq (by decide : ¬ ((1 : Int32) = (0 : Int32)))).1) ?_
         refine XS.aload Xc866.here hx rfl (hb hby at_258) rfl rfl ?_
         refine XS.iloadN Xc866.here hx rfl (hb hby at_260) rfl ?_
         refine XS.iload Xc866.here hx rfl (hb hby at_261) rfl ?_
         refine XS.iloadN Xc866.here hx rfl (hb hby at_263) rfl ?_
         exact k)
       obtain ⟨cqc883, kqc883, qc883a, qc883b, qc883c⟩ := isOf hZ ec866 E_823
       obtain ⟨_, _, ⟨Tc883, Lc883, kc883, nc883⟩, -, Xc883, ⟨Lcc883, hQc883, lc883, yc883, zc883⟩, stc883⟩ := Xc866.virtualBack hx (y := M11) (z := M11) hown (mvT hZ (ww hw 81 rfl)) (mvT hZ (ww hw 82 rfl)) (notFace_of_selects (args := #[]) (mvT hZ (ww hw 84 rfl))) (mvT hZ (ww hw 84 rfl)) (mvT hZ (ww hw 83 rfl)) (by decide) (backOf (W := 0) (rm15_17 l Z a0 hw [] i3 i4 i0 i3 i4 i0 i0 i1 i2 (0 : Int32) (0 : Int32) (0 : Int32) (0 : Int32) (0 : Int32) (0 : Int32) o14_c724 o5_c57 o34_c57 o9_c77 k5_c57 k34_c57 k9_c77 Tc800.heap n0 O832  gn_o14_c724 gn_o5_c57 gn_o34_c57 gn_o9_c77 (Ne.symm ne_o5_c57_o14_c724) (Ne.symm ne_o34_c57_o14_c724) (Ne.symm ne_o9_c77_o14_c724) nn_o5_c57_o34_c57 ne_o5_c57_o9_c77 ne_o34_c57_o9_c77 E_823 F_824 F_825 F_828 V_817 E_818 V_819 E_820 V_821 E_822) hZ (ww hw 85 rfl) (ww hw 2 rfl) (by decide) (by decide)) qc883a qc883c (g := (mkF m 264 Ls861 [(.int i0), (.int i4), (.int i3), (.ref o14_c724)])) rfl (by rw [hml]; rfl) (Steps.refl _) (argsL := [(.int i3), (.int i4), (.int i0)]) (rest := []) (lenOf pd5 rfl) rfl (by show 2 * 0 + _ ≤ _; exact Nat.le_of_eq rfl) (hb hby at_264) (fun _ _ => ⟨rfl, ec866, (by decide : 13 + 0 ≤ _), (by decide : 72 + 0 ≤ _)⟩)
       dsimp only [Pt.U, Pt.locs, Pt.cells, Pt.slots] at Xc883 lc883 yc883 zc883 stc883 hQc883
       subst lc883 yc883 zc883
       obtain ⟨Nqc883, ec883, hAc883⟩ := hQc883
       have Nc883 := Fr.app Nc866 Nqc883
       rcases hAc883 with ⟨rfl, g884⟩ | ⟨rfl, g885, g886, g887⟩ | ⟨rfl, g888, g889, g890, g891⟩ | ⟨rfl, g892, g893, g894, g895⟩ | ⟨rfl, g896, g897⟩
       ·
        exact (ar16 g498 g884).elim
       ·
        exact (ar7 g887).elim
       ·
        exact (ar8 g891).elim
       ·
        have p898 : ∀ t, St p e below Tc883 (mkF m 267 Ls861 [(.int (1 : Int32))]) t → S0 t := fun t k => p882 t (stc883.trans k)
        have p899 : ∀ t, St p e below Tc883 (mkF m 294 Ls861 [(.int (1 : Int32))]) t → S0 t := fun t k => p898 t (by
          refine XS.iload Xc883.here hx rfl (hb hby at_267) rfl ?_
          refine XS.ifYes Xc883.here hx rfl (pc0 := 269) (pc' := 277) rfl (hb hby at_269) rfl ((if0 _ _).trans (feq g305).2) (by decide) (by decide) ?_
          refine XT.iconstV Xc883.here hx rfl (1 : Int32) (hb hby at_277) (by decide) ?_
          refine XS.goto Xc883.here hx rfl (pc0 := 278) (pc' := 282) rfl (hb hby at_278) (by decide) (by decide) ?_
          refine XS.icmpNo Xc883.here hx rfl (hb hby at_282) rfl (teq (by decide : (1 : Int32) = (1 : Int32))).2 ?_
          show St p e below Tc883 (mkF m 285 Ls861 []) t
          refine XT.iconstV Xc883.here hx rfl (1 : Int32) (hb hby at_285) (by decide) ?_
          refine XS.goto Xc883.here hx rfl (pc0 := 286) (pc' := 290) rfl (hb hby at_286) (by decide) (by decide) ?_
          refine XS.istore Xc883.here hx rfl (hb hby at_290) rfl (l' := Ls861) rfl ?_
          refine XS.iload Xc883.here hx rfl (hb hby at_292) rfl ?_
          exact k)
        obtain ⟨fs, hr, hrun, hended, hW, hsame⟩ := Xc883.leave (v := some (.int (1 : Int32))) (fun h => by rw [Bd.returns] at h; cases h)
        refine ⟨_, _, p899 _ ?_, hrun, hended, _, _, rfl, ?_, ⟨_, rfl⟩, hW, hsame.mono (by decide) (by decide)⟩
        · exact retOut Xc883 hx Bd.returns rfl (Or.inl ⟨rfl, by simp, _, rfl⟩) (hb hby at_294) hr
        · exact ⟨rfl, Nc883⟩
       ·
        exact (ar17 g499 g897).elim
     ·
      exact (ar5 g499 g720).elim
    ·
     have V_900 := f_87.keep Kcc485 (ninS ne_o5_c57_o9_c77 (ninS nn_o5_c57_o34_c57 (ninS (Ne.symm ne_o45_o5_c57) nin0)))
     have E_901 := f_88.keep Kcc485
     have V_902 := f_92.keep Kcc485 (ninS ne_o66_c57_o9_c77 (ninS (Ne.symm nn_o34_c57_o66_c57) (ninS (Ne.symm ne_o45_o66_c57) nin0)))
     have E_903 := f_93.keep Kcc485
     have O904 := O94.keep Kcc485 (allS gn_o9_c77 (allS gn_o34_c57 (allS gb_o45 all0)))
     have K905 := Keep.trans K95 Kcc485 (allS (Or.inr sz_o9_c77) (allS (Or.inr sz_o34_c57) (allS (Or.inr sz_o45) all0)))
     have p906 : ∀ t, St p e below Tc485 (mkF m 83 Ls303 [(.int (0 : Int32))]) t → S0 t := fun t k => p484 t (stc485.trans k)
     have p907 : ∀ t, St p e below Tc485 (mkF m 91 Ls303 [(.int (own_isz (own_cmp3 i0 i1 i2 i3 i4 i0)))]) t → S0 t := fun t k => p906 t (by
       refine XS.pop Xc485.here hx rfl (hb hby at_83) rfl rfl ?_
       refine XS.iload Xc485.here hx rfl (hb hby at_84) rfl ?_
       refine XS.ifNo Xc485.here hx rfl (hb hby at_86) rfl ((if0 _ _).trans (feq g305).1) ?_
       refine XS.iload Xc485.here hx rfl (hb hby at_89) rfl ?_
       exact k)
     by_cases g908 : (own_isz (own_cmp3 i0 i1 i2 i3 i4 i0)) = (0 : Int32)
     ·
      exact (ar6 g511 g512 g908).elim
     ·
      let Ls909 : Array Slot := #[.val (.int i0), .val (.int i1), .val (.int i2), .val (.int i3), .val (.int i4), .val (.int i5), .val (.int w2), .val (.int (1 : Int32)), .val (.int (own_isz (own_cmp3 i0 i1 i2 i3 i4 i0))), .val (.ref o45), .val (.long (1 : Int64)), .second, .unset, .unset, .unset]
      let Ls910 : Array Slot := #[.val (.int i0), .val (.int i1), .val (.int i2), .val (.int i3), .val (.int i4), .val (.int i5), .val (.int w2), .val (.int (1 : Int32)), .val (.int (own_isz (own_cmp3 i0 i1 i2 i3 i4 i0))), .val (.ref o45), .val (.long (1 : Int64)), .second, .val .null, .unset, .unset]
      have p911 : ∀ t, St p e below Tc485 (mkF m 113 Ls910 [(.ref o45)]) t → S0 t := fun t k => p907 t (by
        refine XS.ifYes Xc485.here hx rfl (pc0 := 91) (pc' := 100) rfl (hb hby at_91) rfl ((if0 _ _).trans (feq g908).2) (by decide) (by decide) ?_
        refine XT.lconstV Xc485.here hx rfl (1 : Int64) (hb hby at_100) (by decide) ?_
        refine XS.lstore Xc485.here hx rfl (hb hby at_101) rfl (l' := Ls909) rfl ?_
        refine XS.aconstNull Xc485.here hx rfl (hb hby at_103) ?_
        refine XS.astore Xc485.here hx rfl (hb hby at_104) rfl rfl (l' := Ls910) rfl ?_
        show St p e below Tc485 (mkF m 106 Ls910 []) t
        refine XS.iload Xc485.here hx rfl (hb hby at_106) rfl ?_
        refine XS.ifNo Xc485.here hx rfl (hb hby at_108) rfl ((if0 _ _).trans (feq (by decide : ¬ ((1 : Int32) = (0 : Int32)))).1) ?_
        refine XS.aload Xc485.here hx rfl (hb hby at_111) rfl rfl ?_
        exact k)
      obtain ⟨cqc912, kqc912, qc912a, qc912b, qc912c⟩ := isOf hZ rfl f_513
      obtain ⟨_, _, ⟨Tc912, Lc912, kc912, nc912⟩, -, Xc912, ⟨Lcc912, hQc912, lc912, yc912, zc912⟩, stc912⟩ := Xc485.virtualBack hx (y := M13) (z := M13) hown (mvT hZ (ww hw 62 rfl)) (mvT hZ (ww hw 63 rfl)) (notFace_of_selects (args := #[]) (mvT hZ (ww hw 65 rfl))) (mvT hZ (ww hw 65 rfl)) (mvT hZ (ww hw 64 rfl)) (by decide) (backOf (W := 0) (rm11_15 l Z a0 hw [] (0 : Int32) (1 : Int32) (1 : Int64) o45 o5_c57 o34_c57 o66_c57 Tc485.heap n0 O904  gb_o45 gn_o5_c57 gn_o34_c57 gn_o66_c57 ne_o45_o5_c57 ne_o45_o34_c57 ne_o45_o66_c57 nn_o5_c57_o34_c57 nn_o5_c57_o66_c57 nn_o34_c57_o66_c57 f_513 f_514 f_515 f_516 f_517 f_518 f_519) hZ (ww hw 66 rfl) (ww hw 2 rfl) (by decide) (by decide)) qc912a qc912c (g := (mkF m 113 Ls910 [(.ref o45)])) rfl (by rw [hml]; rfl) (Steps.refl _) (argsL := []) (rest := []) (lenOf pd10 rfl) rfl (by show 2 * 0 + _ ≤ _; exact Nat.le_of_eq rfl) (hb hby at_113) (fun _ _ => ⟨rfl, rfl, (by decide : 5 + 4 ≤ _), (by decide : 30 + 18 ≤ _)⟩)
      dsimp only [Pt.U, Pt.locs, Pt.cells, Pt.slots] at Xc912 lc912 yc912 zc912 stc912 hQc912
      subst lc912 yc912 zc912
      obtain ⟨Nqc912, hAc912⟩ := hQc912
      have Nc912 := Fr.app Nc485 Nqc912
      obtain ⟨o14_c912, o67_c44_c912, k67_c44_c912, rfl, Kcc912, gn_o14_c912, zn_o14_c912, gn_o67_c44_c912, zn_o67_c44_c912, nn_o14_c912_o67_c44_c912, f_913, f_914, f_915, f_916, f_917, f_918, f_919, f_920, f_921, f_922, f_923, f_924, f_925, f_926, f_927, f_928⟩ := hAc912
      have ne_o5_c57_o14_c912 : o5_c57 ≠ o14_c912 := Nat.ne_of_lt (Nat.lt_of_lt_of_le V_900.lt zn_o14_c912)
      have ne_o66_c57_o14_c912 : o66_c57 ≠ o14_c912 := Nat.ne_of_lt (Nat.lt_of_lt_of_le V_902.lt zn_o14_c912)
      have ne_o45_o14_c912 : o45 ≠ o14_c912 := Nat.ne_of_lt (Nat.lt_of_lt_of_le f_513.lt zn_o14_c912)
      have ne_o34_c57_o14_c912 : o34_c57 ≠ o14_c912 := Nat.ne_of_lt (Nat.lt_of_lt_of_le f_520.lt zn_o14_c912)
      have ne_o9_c77_o14_c912 : o9_c77 ≠ o14_c912 := Nat.ne_of_lt (Nat.lt_of_lt_of_le f_522.lt zn_o14_c912)
      have ne_o5_c57_o67_c44_c912 : o5_c57 ≠ o67_c44_c912 := Nat.ne_of_lt (Nat.lt_of_lt_of_le V_900.lt zn_o67_c44_c912)
      have ne_o66_c57_o67_c44_c912 : o66_c57 ≠ o67_c44_c912 := Nat.ne_of_lt (Nat.lt_of_lt_of_le V_902.lt zn_o67_c44_c912)
      have ne_o45_o67_c44_c912 : o45 ≠ o67_c44_c912 := Nat.ne_of_lt (Nat.lt_of_lt_of_le f_513.lt zn_o67_c44_c912)
      have ne_o34_c57_o67_c44_c912 : o34_c57 ≠ o67_c44_c912 := Nat.ne_of_lt (Nat.lt_of_lt_of_le f_520.lt zn_o67_c44_c912)
      have ne_o9_c77_o67_c44_c912 : o9_c77 ≠ o67_c44_c912 := Nat.ne_of_lt (Nat.lt_of_lt_of_le f_522.lt zn_o67_c44_c912)
      have sz_o14_c912 : h0.size ≤ o14_c912 := Nat.le_trans (K905).1 zn_o14_c912
      have sz_o67_c44_c912 : h0.size ≤ o67_c44_c912 := Nat.le_trans (K905).1 zn_o67_c44_c912
      have V_929 := V_900.keep Kcc912 (ninS (Ne.symm ne_o45_o5_c57) nin0)
      have E_930 := E_901.keep Kcc912
      have V_931 := V_902.keep Kcc912 (ninS (Ne.symm ne_o45_o66_c57) nin0)
      have E_932 := E_903.keep Kcc912
      have V_933 := f_520.keep Kcc912 (ninS (Ne.symm ne_o45_o34_c57) nin0)
      have E_934 := f_521.keep Kcc912
      have V_935 := f_522.keep Kcc912 (ninS (Ne.symm ne_o45_o9_c77) nin0)
      have E_936 := f_523.keep Kcc912
      have O937 := O904.keep Kcc912 (allS gb_o45 all0)
      have K938 := Keep.trans K905 Kcc912 (allS (Or.inr sz_o45) all0)
      have p939 : ∀ t, St p e below Tc912 (mkF m 116 Ls910 [(.ref o14_c912)]) t → S0 t := fun t k => p911 t (stc912.trans k)
      let Ls940 : Array Slot := #[.val (.int i0), .val (.int i1), .val (.int i2), .val (.int i3), .val (.int i4), .val (.int i5), .val (.int w2), .val (.int (1 : Int32)), .val (.int (own_isz (own_cmp3 i0 i1 i2 i3 i4 i0))), .val (.ref o45), .val (.long (1 : Int64)), .second, .val (.ref o14_c912), .unset, .unset]
      have p941 : ∀ t, St p e below Tc912 (mkF m 120 Ls940 [(.ref o45)]) t → S0 t := fun t k => p939 t (by
        refine XS.astore Xc912.here hx rfl (hb hby at_116) rfl rfl (l' := Ls940) rfl ?_
        refine XS.aload Xc912.here hx rfl (hb hby at_118) rfl rfl ?_
        exact k)
      obtain ⟨cqc942, kqc942, qc942a, qc942b, qc942c⟩ := isOf hZ rfl f_913
      obtain ⟨_, _, ⟨Tc942, Lc942, kc942, nc942⟩, -, Xc942, ⟨Lcc942, hQc942, lc942, yc942, zc942⟩, stc942⟩ := Xc912.virtualBack hx (y := M9) (z := M9) hown (mvT hZ (ww hw 71 rfl)) (mvT hZ (ww hw 72 rfl)) (notFace_of_selects (args := #[]) (mvT hZ (ww hw 74 rfl))) (mvT hZ (ww hw 74 rfl)) (mvT hZ (ww hw 73 rfl)) (by decide) (backOf (W := 0) (rm13_11 l Z a0 hw [] (1 : Int32) (1 : Int32) (1 : Int64) o45 o5_c57 o34_c57 o66_c57 Tc912.heap n0 O937  gb_o45 gn_o5_c57 gn_o34_c57 gn_o66_c57 ne_o45_o5_c57 ne_o45_o34_c57 ne_o45_o66_c57 nn_o5_c57_o34_c57 nn_o5_c57_o66_c57 nn_o34_c57_o66_c57 f_913 f_914 f_915 f_916 f_917 f_918 f_919) hZ (ww hw 75 rfl) (ww hw 2 rfl) (by decide) (by decide)) qc942a qc942c (g := (mkF m 120 Ls940 [(.ref o45)])) rfl (by rw [hml]; rfl) (Steps.refl _) (argsL := []) (rest := []) (lenOf pd0 rfl) rfl (by show 2 * 0 + _ ≤ _; exact Nat.le_of_eq rfl) (hb hby at_120) (fun _ _ => ⟨rfl, rfl, (by decide : 9 + 3 ≤ _), (by decide : 48 + 12 ≤ _)⟩)
      dsimp only [Pt.U, Pt.locs, Pt.cells, Pt.slots] at Xc942 lc942 yc942 zc942 stc942 hQc942
      subst lc942 yc942 zc942
      obtain ⟨Nqc942, hAc942⟩ := hQc942
      have Nc942 := Fr.app Nc912 Nqc942
      obtain ⟨o2_c942, o31_c942, o63_c942, k2_c942, k31_c942, k63_c942, rfl, Kcc942, gn_o2_c942, zn_o2_c942, gn_o31_c942, zn_o31_c942, gn_o63_c942, zn_o63_c942, nn_o2_c942_o31_c942, nn_o2_c942_o63_c942, nn_o31_c942_o63_c942, f_943, f_944, f_945, f_946, f_947, f_948, f_949, f_950, f_951, f_952, f_953, f_954, f_955, f_956⟩ := hAc942
      have ne_o5_c57_o2_c942 : o5_c57 ≠ o2_c942 := Nat.ne_of_lt (Nat.lt_of_lt_of_le V_929.lt zn_o2_c942)
      have ne_o66_c57_o2_c942 : o66_c57 ≠ o2_c942 := Nat.ne_of_lt (Nat.lt_of_lt_of_le V_931.lt zn_o2_c942)
      have ne_o34_c57_o2_c942 : o34_c57 ≠ o2_c942 := Nat.ne_of_lt (Nat.lt_of_lt_of_le V_933.lt zn_o2_c942)
      have ne_o9_c77_o2_c942 : o9_c77 ≠ o2_c942 := Nat.ne_of_lt (Nat.lt_of_lt_of_le V_935.lt zn_o2_c942)
      have ne_o45_o2_c942 : o45 ≠ o2_c942 := Nat.ne_of_lt (Nat.lt_of_lt_of_le f_913.lt zn_o2_c942)
      have ne_o14_c912_o2_c942 : o14_c912 ≠ o2_c942 := Nat.ne_of_lt (Nat.lt_of_lt_of_le f_920.lt zn_o2_c942)
      have ne_o67_c44_c912_o2_c942 : o67_c44_c912 ≠ o2_c942 := Nat.ne_of_lt (Nat.lt_of_lt_of_le f_927.lt zn_o2_c942)
      have ne_o5_c57_o31_c942 : o5_c57 ≠ o31_c942 := Nat.ne_of_lt (Nat.lt_of_lt_of_le V_929.lt zn_o31_c942)
      have ne_o66_c57_o31_c942 : o66_c57 ≠ o31_c942 := Nat.ne_of_lt (Nat.lt_of_lt_of_le V_931.lt zn_o31_c942)
      have ne_o34_c57_o31_c942 : o34_c57 ≠ o31_c942 := Nat.ne_of_lt (Nat.lt_of_lt_of_le V_933.lt zn_o31_c942)
      have ne_o9_c77_o31_c942 : o9_c77 ≠ o31_c942 := Nat.ne_of_lt (Nat.lt_of_lt_of_le V_935.lt zn_o31_c942)
      have ne_o45_o31_c942 : o45 ≠ o31_c942 := Nat.ne_of_lt (Nat.lt_of_lt_of_le f_913.lt zn_o31_c942)
      have ne_o14_c912_o31_c942 : o14_c912 ≠ o31_c942 := Nat.ne_of_lt (Nat.lt_of_lt_of_le f_920.lt zn_o31_c942)
      have ne_o67_c44_c912_o31_c942 : o67_c44_c912 ≠ o31_c942 := Nat.ne_of_lt (Nat.lt_of_lt_of_le f_927.lt zn_o31_c942)
      have ne_o5_c57_o63_c942 : o5_c57 ≠ o63_c942 := Nat.ne_of_lt (Nat.lt_of_lt_of_le V_929.lt zn_o63_c942)
      have ne_o66_c57_o63_c942 : o66_c57 ≠ o63_c942 := Nat.ne_of_lt (Nat.lt_of_lt_of_le V_931.lt zn_o63_c942)
      have ne_o34_c57_o63_c942 : o34_c57 ≠ o63_c942 := Nat.ne_of_lt (Nat.lt_of_lt_of_le V_933.lt zn_o63_c942)
      have ne_o9_c77_o63_c942 : o9_c77 ≠ o63_c942 := Nat.ne_of_lt (Nat.lt_of_lt_of_le V_935.lt zn_o63_c942)
      have ne_o45_o63_c942 : o45 ≠ o63_c942 := Nat.ne_of_lt (Nat.lt_of_lt_of_le f_913.lt zn_o63_c942)
      have ne_o14_c912_o63_c942 : o14_c912 ≠ o63_c942 := Nat.ne_of_lt (Nat.lt_of_lt_of_le f_920.lt zn_o63_c942)
      have ne_o67_c44_c912_o63_c942 : o67_c44_c912 ≠ o63_c942 := Nat.ne_of_lt (Nat.lt_of_lt_of_le f_927.lt zn_o63_c942)
      have sz_o2_c942 : h0.size ≤ o2_c942 := Nat.le_trans (K938).1 zn_o2_c942
      have sz_o31_c942 : h0.size ≤ o31_c942 := Nat.le_trans (K938).1 zn_o31_c942
      have sz_o63_c942 : h0.size ≤ o63_c942 := Nat.le_trans (K938).1 zn_o63_c942
      have V_957 := V_929.keep Kcc942 (ninS (Ne.symm ne_o45_o5_c57) nin0)
      have E_958 := E_930.keep Kcc942
      have V_959 := V_931.keep Kcc942 (ninS (Ne.symm ne_o45_o66_c57) nin0)
      have E_960 := E_932.keep Kcc942
      have V_961 := V_933.keep Kcc942 (ninS (Ne.symm ne_o45_o34_c57) nin0)
      have E_962 := E_934.keep Kcc942
      have V_963 := V_935.keep Kcc942 (ninS (Ne.symm ne_o45_o9_c77) nin0)
      have E_964 := E_936.keep Kcc942
      have E_965 := f_920.keep Kcc942
      have F_966 := f_921.keep Kcc942 (ninS (Ne.symm ne_o45_o14_c912) nin0)
      have F_967 := f_922.keep Kcc942 (ninS (Ne.symm ne_o45_o14_c912) nin0)
      have F_968 := f_923.keep Kcc942 (ninS (Ne.symm ne_o45_o14_c912) nin0)
      have F_969 := f_924.keep Kcc942 (ninS (Ne.symm ne_o45_o14_c912) nin0)
      have F_970 := f_925.keep Kcc942 (ninS (Ne.symm ne_o45_o14_c912) nin0)
      have F_971 := f_926.keep Kcc942 (ninS (Ne.symm ne_o45_o14_c912) nin0)
      have V_972 := f_927.keep Kcc942 (ninS (Ne.symm ne_o45_o67_c44_c912) nin0)
      have E_973 := f_928.keep Kcc942
      have O974 := O937.keep Kcc942 (allS gb_o45 all0)
      have K975 := Keep.trans K938 Kcc942 (allS (Or.inr sz_o45) all0)
      have p976 : ∀ t, St p e below Tc942 (mkF m 123 Ls940 []) t → S0 t := fun t k => p941 t (stc942.trans k)
      have p977 : ∀ t, St p e below Tc942 (mkF m 125 Ls940 [(.ref o45)]) t → S0 t := fun t k => p976 t (by
        refine XS.aload Xc942.here hx rfl (hb hby at_123) rfl rfl ?_
        exact k)
      obtain ⟨cqc978, kqc978, qc978a, qc978b, qc978c⟩ := isOf hZ rfl f_943
      obtain ⟨_, _, ⟨Tc978, Lc978, kc978, nc978⟩, -, Xc978, ⟨Lcc978, hQc978, lc978, yc978, zc978⟩, stc978⟩ := Xc942.virtualBack hx (y := M10) (z := M10) hown (mvT hZ (ww hw 76 rfl)) (mvT hZ (ww hw 77 rfl)) (notFace_of_selects (args := #[]) (mvT hZ (ww hw 79 rfl))) (mvT hZ (ww hw 79 rfl)) (mvT hZ (ww hw 78 rfl)) (by decide) (backOf (W := 0) (rm14_12 l Z a0 hw [] (0 : Int64) o45 Tc942.heap n0 O974  gb_o45 f_943 f_949) hZ (ww hw 80 rfl) (ww hw 2 rfl) (by decide) (by decide)) qc978a qc978c (g := (mkF m 125 Ls940 [(.ref o45)])) rfl (by rw [hml]; rfl) (Steps.refl _) (argsL := []) (rest := []) (lenOf pd8 rfl) rfl (by show 2 * 0 + _ ≤ _; exact Nat.le_of_eq rfl) (hb hby at_125) (fun _ _ => ⟨rfl, rfl, (by decide : 12 + 0 ≤ _), (by decide : 60 + 0 ≤ _)⟩)
      dsimp only [Pt.U, Pt.locs, Pt.cells, Pt.slots] at Xc978 lc978 yc978 zc978 stc978 hQc978
      subst lc978 yc978 zc978
      obtain ⟨Nqc978, ec978, hAc978⟩ := hQc978
      have Nc978 := Fr.app Nc942 Nqc978
      obtain rfl := hAc978
      have p979 : ∀ t, St p e below Tc978 (mkF m 128 Ls940 [(.long (0 : Int64))]) t → S0 t := fun t k => p977 t (stc978.trans k)
      have p980 : ∀ t, St p e below Tc978 (mkF m 138 Ls940 [(.int i2), (.int i1), (.int i0), (.ref o45)]) t → S0 t := fun t k => p979 t (by
        refine XT.lconstV Xc978.here hx rfl (0 : Int64) (hb hby at_128) (by decide) ?_
        refine XS.lcmp Xc978.here hx rfl (hb hby at_129) rfl ?_
        refine XS.ifNo Xc978.here hx rfl (hb hby at_130) rfl ((if0 _ _).trans (teq (by decide : (0 : Int32) = (0 : Int32))).2) ?_
        refine XS.aload Xc978.here hx rfl (hb hby at_133) rfl rfl ?_
        refine XS.iloadN Xc978.here hx rfl (hb hby at_135) rfl ?_
        show St p e below Tc978 (mkF m 136 Ls940 [(.int i0), (.ref o45)]) t
        refine XS.iloadN Xc978.here hx rfl (hb hby at_136) rfl ?_
        refine XS.iloadN Xc978.here hx rfl (hb hby at_137) rfl ?_
        exact k)
      obtain ⟨cqc981, kqc981, qc981a, qc981b, qc981c⟩ := isOf hZ ec978 f_943
      obtain ⟨_, _, ⟨Tc981, Lc981, kc981, nc981⟩, -, Xc981, ⟨Lcc981, hQc981, lc981, yc981, zc981⟩, stc981⟩ := Xc978.virtualBack hx (y := M11) (z := M11) hown (mvT hZ (ww hw 81 rfl)) (mvT hZ (ww hw 82 rfl)) (notFace_of_selects (args := #[]) (mvT hZ (ww hw 84 rfl))) (mvT hZ (ww hw 84 rfl)) (mvT hZ (ww hw 83 rfl)) (by decide) (backOf (W := 0) (rm15_13 l Z a0 hw [] i0 i1 i2 o45 o2_c942 o31_c942 k2_c942 k31_c942 Tc942.heap n0 O974  gb_o45 gn_o2_c942 gn_o31_c942 ne_o45_o2_c942 ne_o45_o31_c942 nn_o2_c942_o31_c942 f_943 f_944 f_945 f_948 f_950 f_951 f_953 f_954) hZ (ww hw 85 rfl) (ww hw 2 rfl) (by decide) (by decide)) qc981a qc981c (g := (mkF m 138 Ls940 [(.int i2), (.int i1), (.int i0), (.ref o45)])) rfl (by rw [hml]; rfl) (Steps.refl _) (argsL := [(.int i0), (.int i1), (.int i2)]) (rest := []) (lenOf pd5 rfl) rfl (by show 2 * 0 + _ ≤ _; exact Nat.le_of_eq rfl) (hb hby at_138) (fun _ _ => ⟨rfl, ec978, (by decide : 12 + 0 ≤ _), (by decide : 60 + 0 ≤ _)⟩)
      dsimp only [Pt.U, Pt.locs, Pt.cells, Pt.slots] at Xc981 lc981 yc981 zc981 stc981 hQc981
      subst lc981 yc981 zc981
      obtain ⟨Nqc981, ec981, hAc981⟩ := hQc981
      have Nc981 := Fr.app Nc978 Nqc981
      obtain rfl := hAc981
      have p982 : ∀ t, St p e below Tc981 (mkF m 141 Ls940 [(.int (0 : Int32))]) t → S0 t := fun t k => p980 t (stc981.trans k)
      have p983 : ∀ t, St p e below Tc981 (mkF m 150 Ls940 [(.int i0), (.int i4), (.int i3), (.ref o45)]) t → S0 t := fun t k => p982 t (by
        refine XS.ifNo Xc981.here hx rfl (hb hby at_141) rfl ((if0 _ _).trans (teq (by decide : (0 : Int32) = (0 : Int32))).2) ?_
        refine XS.aload Xc981.here hx rfl (hb hby at_144) rfl rfl ?_
        refine XS.iloadN Xc981.here hx rfl (hb hby at_146) rfl ?_
        refine XS.iload Xc981.here hx rfl (hb hby at_147) rfl ?_
        refine XS.iloadN Xc981.here hx rfl (hb hby at_149) rfl ?_
        exact k)
      obtain ⟨cqc984, kqc984, qc984a, qc984b, qc984c⟩ := isOf hZ ec981 f_943
      obtain ⟨_, _, ⟨Tc984, Lc984, kc984, nc984⟩, -, Xc984, ⟨Lcc984, hQc984, lc984, yc984, zc984⟩, stc984⟩ := Xc981.virtualBack hx (y := M11) (z := M11) hown (mvT hZ (ww hw 81 rfl)) (mvT hZ (ww hw 82 rfl)) (notFace_of_selects (args := #[]) (mvT hZ (ww hw 84 rfl))) (mvT hZ (ww hw 84 rfl)) (mvT hZ (ww hw 83 rfl)) (by decide) (backOf (W := 0) (rm15_13 l Z a0 hw [] i3 i4 i0 o45 o2_c942 o31_c942 k2_c942 k31_c942 Tc942.heap n0 O974  gb_o45 gn_o2_c942 gn_o31_c942 ne_o45_o2_c942 ne_o45_o31_c942 nn_o2_c942_o31_c942 f_943 f_944 f_945 f_948 f_950 f_951 f_953 f_954) hZ (ww hw 85 rfl) (ww hw 2 rfl) (by decide) (by decide)) qc984a qc984c (g := (mkF m 150 Ls940 [(.int i0), (.int i4), (.int i3), (.ref o45)])) rfl (by rw [hml]; rfl) (Steps.refl _) (argsL := [(.int i3), (.int i4), (.int i0)]) (rest := []) (lenOf pd5 rfl) rfl (by show 2 * 0 + _ ≤ _; exact Nat.le_of_eq rfl) (hb hby at_150) (fun _ _ => ⟨rfl, ec981, (by decide : 12 + 0 ≤ _), (by decide : 60 + 0 ≤ _)⟩)
      dsimp only [Pt.U, Pt.locs, Pt.cells, Pt.slots] at Xc984 lc984 yc984 zc984 stc984 hQc984
      subst lc984 yc984 zc984
      obtain ⟨Nqc984, ec984, hAc984⟩ := hQc984
      have Nc984 := Fr.app Nc981 Nqc984
      obtain rfl := hAc984
      have p985 : ∀ t, St p e below Tc984 (mkF m 153 Ls940 [(.int (0 : Int32))]) t → S0 t := fun t k => p983 t (stc984.trans k)
      let Ls986 : Array Slot := #[.val (.int i0), .val (.int i1), .val (.int i2), .val (.int i3), .val (.int i4), .val (.int i5), .val (.int w2), .val (.int (1 : Int32)), .val (.int (own_isz (own_cmp3 i0 i1 i2 i3 i4 i0))), .val (.ref o45), .val (.long (1 : Int64)), .second, .val (.ref o14_c912), .val (.int (1 : Int32)), .unset]
      have p987 : ∀ t, St p e below Tc984 (mkF m 169 Ls986 [(.int i0), (.int i4), (.int i3), (.ref o45)]) t → S0 t := fun t k => p985 t (by
        refine XS.ifNo Xc984.here hx rfl (hb hby at_153) rfl ((if0 _ _).trans (teq (by decide : (0 : Int32) = (0 : Int32))).2) ?_
        refine XT.iconstV Xc984.here hx rfl (1 : Int32) (hb hby at_156) (by decide) ?_
        refine XS.goto Xc984.here hx rfl (pc0 := 157) (pc' := 161) rfl (hb hby at_157) (by decide) (by decide) ?_
        refine XS.istore Xc984.here hx rfl (hb hby at_161) rfl (l' := Ls986) rfl ?_
        refine XS.aload Xc984.here hx rfl (hb hby at_163) rfl rfl ?_
        show St p e below Tc984 (mkF m 165 Ls986 [(.ref o45)]) t
        refine XS.iloadN Xc984.here hx rfl (hb hby at_165) rfl ?_
        refine XS.iload Xc984.here hx rfl (hb hby at_166) rfl ?_
        refine XS.iloadN Xc984.here hx rfl (hb hby at_168) rfl ?_
        exact k)
      obtain ⟨cqc988, kqc988, qc988a, qc988b, qc988c⟩ := isOf hZ ec984 f_943
      obtain ⟨_, _, ⟨Tc988, Lc988, kc988, nc988⟩, -, Xc988, ⟨Lcc988, hQc988, lc988, yc988, zc988⟩, stc988⟩ := Xc984.virtualBack hx (y := M6) (z := M6) hown (mvT hZ (ww hw 19 rfl)) (mvT hZ (ww hw 20 rfl)) (notFace_of_selects (args := #[]) (mvT hZ (ww hw 22 rfl))) (mvT hZ (ww hw 22 rfl)) (mvT hZ (ww hw 21 rfl)) (by decide) (backOf (W := 0) (rm3_1 l Z a0 hw [] i3 i4 i0 o45 o2_c942 o31_c942 o63_c942 k2_c942 k31_c942 k63_c942 Tc942.heap n0 O974  gb_o45 gn_o2_c942 gn_o31_c942 gn_o63_c942 ne_o45_o2_c942 ne_o45_o31_c942 ne_o45_o63_c942 nn_o2_c942_o31_c942 nn_o2_c942_o63_c942 nn_o31_c942_o63_c942 f_943 f_944 f_945 f_946 f_947 f_948 f_949 f_950 f_951 f_952 f_953 f_954 f_955 f_956) hZ (ww hw 23 rfl) (ww hw 2 rfl) (by decide) (by decide)) qc988a qc988c (g := (mkF m 169 Ls986 [(.int i0), (.int i4), (.int i3), (.ref o45)])) rfl (by rw [hml]; rfl) (Steps.refl _) (argsL := [(.int i3), (.int i4), (.int i0)]) (rest := []) (lenOf pd5 rfl) rfl (by show 2 * 0 + _ ≤ _; exact Nat.le_of_eq rfl) (hb hby at_169) (fun _ _ => ⟨rfl, ec984, (by decide : 12 + 1 ≤ _), (by decide : 60 + 12 ≤ _)⟩)
      dsimp only [Pt.U, Pt.locs, Pt.cells, Pt.slots] at Xc988 lc988 yc988 zc988 stc988 hQc988
      subst lc988 yc988 zc988
      obtain ⟨Nqc988, hAc988⟩ := hQc988
      have Nc988 := Fr.app Nc984 Nqc988
      obtain ⟨o9_c988, k9_c988, rfl, Kcc988, gn_o9_c988, zn_o9_c988, f_989, f_990, f_991, f_992, f_993, f_994, f_995, f_996, f_997, f_998, f_999, f_1000, f_1001, f_1002, f_1003, f_1004⟩ := hAc988
      have ne_o5_c57_o9_c988 : o5_c57 ≠ o9_c988 := Nat.ne_of_lt (Nat.lt_of_lt_of_le V_957.lt zn_o9_c988)
      have ne_o34_c57_o9_c988 : o34_c57 ≠ o9_c988 := Nat.ne_of_lt (Nat.lt_of_lt_of_le V_961.lt zn_o9_c988)
      have ne_o9_c77_o9_c988 : o9_c77 ≠ o9_c988 := Nat.ne_of_lt (Nat.lt_of_lt_of_le V_963.lt zn_o9_c988)
      have ne_o14_c912_o9_c988 : o14_c912 ≠ o9_c988 := Nat.ne_of_lt (Nat.lt_of_lt_of_le E_965.lt zn_o9_c988)
      have ne_o67_c44_c912_o9_c988 : o67_c44_c912 ≠ o9_c988 := Nat.ne_of_lt (Nat.lt_of_lt_of_le V_972.lt zn_o9_c988)
      have ne_o45_o9_c988 : o45 ≠ o9_c988 := Nat.ne_of_lt (Nat.lt_of_lt_of_le f_943.lt zn_o9_c988)
      have ne_o2_c942_o9_c988 : o2_c942 ≠ o9_c988 := Nat.ne_of_lt (Nat.lt_of_lt_of_le f_950.lt zn_o9_c988)
      have ne_o31_c942_o9_c988 : o31_c942 ≠ o9_c988 := Nat.ne_of_lt (Nat.lt_of_lt_of_le f_953.lt zn_o9_c988)
      have ne_o63_c942_o9_c988 : o63_c942 ≠ o9_c988 := Nat.ne_of_lt (Nat.lt_of_lt_of_le f_955.lt zn_o9_c988)
      have sz_o9_c988 : h0.size ≤ o9_c988 := Nat.le_trans (K975).1 zn_o9_c988
      have V_1005 := V_957.keep Kcc988 (ninS (Ne.symm ne_o45_o5_c57) (ninS ne_o5_c57_o63_c942 (ninS ne_o5_c57_o31_c942 (ninS ne_o5_c57_o2_c942 nin0))))
      have E_1006 := E_958.keep Kcc988
      have V_1007 := V_961.keep Kcc988 (ninS (Ne.symm ne_o45_o34_c57) (ninS ne_o34_c57_o63_c942 (ninS ne_o34_c57_o31_c942 (ninS ne_o34_c57_o2_c942 nin0))))
      have E_1008 := E_962.keep Kcc988
      have V_1009 := V_963.keep Kcc988 (ninS (Ne.symm ne_o45_o9_c77) (ninS ne_o9_c77_o63_c942 (ninS ne_o9_c77_o31_c942 (ninS ne_o9_c77_o2_c942 nin0))))
      have E_1010 := E_964.keep Kcc988
      have E_1011 := E_965.keep Kcc988
      have F_1012 := F_966.keep Kcc988 (ninS (Ne.symm ne_o45_o14_c912) (ninS ne_o14_c912_o63_c942 (ninS ne_o14_c912_o31_c942 (ninS ne_o14_c912_o2_c942 nin0))))
      have F_1013 := F_967.keep Kcc988 (ninS (Ne.symm ne_o45_o14_c912) (ninS ne_o14_c912_o63_c942 (ninS ne_o14_c912_o31_c942 (ninS ne_o14_c912_o2_c942 nin0))))
      have F_1014 := F_968.keep Kcc988 (ninS (Ne.symm ne_o45_o14_c912) (ninS ne_o14_c912_o63_c942 (ninS ne_o14_c912_o31_c942 (ninS ne_o14_c912_o2_c942 nin0))))
      have F_1015 := F_969.keep Kcc988 (ninS (Ne.symm ne_o45_o14_c912) (ninS ne_o14_c912_o63_c942 (ninS ne_o14_c912_o31_c942 (ninS ne_o14_c912_o2_c942 nin0))))
      have F_1016 := F_970.keep Kcc988 (ninS (Ne.symm ne_o45_o14_c912) (ninS ne_o14_c912_o63_c942 (ninS ne_o14_c912_o31_c942 (ninS ne_o14_c912_o2_c942 nin0))))
      have F_1017 := F_971.keep Kcc988 (ninS (Ne.symm ne_o45_o14_c912) (ninS ne_o14_c912_o63_c942 (ninS ne_o14_c912_o31_c942 (ninS ne_o14_c912_o2_c942 nin0))))
      have V_1018 := V_972.keep Kcc988 (ninS (Ne.symm ne_o45_o67_c44_c912) (ninS ne_o67_c44_c912_o63_c942 (ninS ne_o67_c44_c912_o31_c942 (ninS ne_o67_c44_c912_o2_c942 nin0))))
      have E_1019 := E_973.keep Kcc988
      have O1020 := O974.keep Kcc988 (allS gb_o45 (allS gn_o63_c942 (allS gn_o31_c942 (allS gn_o2_c942 all0))))
      have K1021 := Keep.trans K975 Kcc988 (allS (Or.inr sz_o45) (allS (Or.inr sz_o63_c942) (allS (Or.inr sz_o31_c942) (allS (Or.inr sz_o2_c942) all0))))
      have p1022 : ∀ t, St p e below Tc988 (mkF m 172 Ls986 [(.int (1 : Int32))]) t → S0 t := fun t k => p987 t (stc988.trans k)
      let Ls1023 : Array Slot := #[.val (.int i0), .val (.int i1), .val (.int i2), .val (.int i3), .val (.int i4), .val (.int i5), .val (.int w2), .val (.int (1 : Int32)), .val (.int (own_isz (own_cmp3 i0 i1 i2 i3 i4 i0))), .val (.ref o45), .val (.long (1 : Int64)), .second, .val (.ref o14_c912), .val (.int (1 : Int32)), .val (.int (1 : Int32))]
      have p1024 : ∀ t, St p e below Tc988 (mkF m 186 Ls1023 [(.ref o45)]) t → S0 t := fun t k => p1022 t (by
        refine XS.istore Xc988.here hx rfl (hb hby at_172) rfl (l' := Ls1023) rfl ?_
        refine XS.iload Xc988.here hx rfl (hb hby at_174) rfl ?_
        refine XS.ifNo Xc988.here hx rfl (hb hby at_176) rfl ((if0 _ _).trans (feq (by decide : ¬ ((1 : Int32) = (0 : Int32)))).1) ?_
        refine XS.iload Xc988.here hx rfl (hb hby at_179) rfl ?_
        refine XS.ifNo Xc988.here hx rfl (hb hby at_181) rfl ((if0 _ _).trans (feq (by decide : ¬ ((1 : Int32) = (0 : Int32)))).1) ?_
        show St p e below Tc988 (mkF m 184 Ls1023 []) t
        refine XS.aload Xc988.here hx rfl (hb hby at_184) rfl rfl ?_
        exact k)
      obtain ⟨cqc1025, kqc1025, qc1025a, qc1025b, qc1025c⟩ := isOf hZ rfl f_991
      obtain ⟨_, _, ⟨Tc1025, Lc1025, kc1025, nc1025⟩, -, Xc1025, ⟨Lcc1025, hQc1025, lc1025, yc1025, zc1025⟩, stc1025⟩ := Xc988.virtualBack hx (y := M10) (z := M10) hown (mvT hZ (ww hw 76 rfl)) (mvT hZ (ww hw 77 rfl)) (notFace_of_selects (args := #[]) (mvT hZ (ww hw 79 rfl))) (mvT hZ (ww hw 79 rfl)) (mvT hZ (ww hw 78 rfl)) (by decide) (backOf (W := 0) (rm14_12 l Z a0 hw [] (1 : Int64) o45 Tc988.heap n0 O1020  gb_o45 f_991 f_997) hZ (ww hw 80 rfl) (ww hw 2 rfl) (by decide) (by decide)) qc1025a qc1025c (g := (mkF m 186 Ls1023 [(.ref o45)])) rfl (by rw [hml]; rfl) (Steps.refl _) (argsL := []) (rest := []) (lenOf pd8 rfl) rfl (by show 2 * 0 + _ ≤ _; exact Nat.le_of_eq rfl) (hb hby at_186) (fun _ _ => ⟨rfl, rfl, (by decide : 13 + 0 ≤ _), (by decide : 72 + 0 ≤ _)⟩)
      dsimp only [Pt.U, Pt.locs, Pt.cells, Pt.slots] at Xc1025 lc1025 yc1025 zc1025 stc1025 hQc1025
      subst lc1025 yc1025 zc1025
      obtain ⟨Nqc1025, ec1025, hAc1025⟩ := hQc1025
      have Nc1025 := Fr.app Nc988 Nqc1025
      obtain rfl := hAc1025
      have p1026 : ∀ t, St p e below Tc1025 (mkF m 189 Ls1023 [(.long (1 : Int64))]) t → S0 t := fun t k => p1024 t (stc1025.trans k)
      have p1027 : ∀ t, St p e below Tc1025 (mkF m 194 Ls1023 []) t → S0 t := fun t k => p1026 t (by
        refine XT.lconstV Xc1025.here hx rfl (1 : Int64) (hb hby at_189) (by decide) ?_
        refine XS.lcmp Xc1025.here hx rfl (hb hby at_190) rfl ?_
        refine XS.ifNo Xc1025.here hx rfl (hb hby at_191) rfl ((if0 _ _).trans (teq (by decide : (0 : Int32) = (0 : Int32))).2) ?_
        exact k)
      obtain ⟨Tj1028, Lj1028, Xj1028, ej1028, Nj1028, pj1028⟩ : ∃  (Tj1028 : State) (Lj1028 : List Loc), Stand p l e room_1 s m #[(.int i0), (.int i1), (.int i2), (.int i3), (.int i4), (.int i5)] below meth c Tj1028 Lj1028 13 72 ∧ Tj1028.heap = Tc988.heap ∧ Fr n0 Lj1028 ∧ ∀ t, St p e below Tj1028 (mkF m 226 #[.val (.int i0), .val (.int i1), .val (.int i2), .val (.int i3), .val (.int i4), .val (.int i5), .val (.int w2), .val (.int (1 : Int32)), .val (.int (own_isz (own_cmp3 i0 i1 i2 i3 i4 i0))), .val (.ref o45), .val (.long (1 : Int64)), .second, .val (.ref o14_c912), .val (.int (1 : Int32)), .val (.int (1 : Int32))] []) t → S0 t := by
       have p1029 : ∀ t, St p e below Tc1025 (mkF m 200 Ls1023 [(.int i0), (.int i4), (.int i3), (.ref o45)]) t → S0 t := fun t k => p1027 t (by
         refine XS.aload Xc1025.here hx rfl (hb hby at_194) rfl rfl ?_
         refine XS.iloadN Xc1025.here hx rfl (hb hby at_196) rfl ?_
         refine XS.iload Xc1025.here hx rfl (hb hby at_197) rfl ?_
         refine XS.iloadN Xc1025.here hx rfl (hb hby at_199) rfl ?_
         exact k)
       obtain ⟨cqc1030, kqc1030, qc1030a, qc1030b, qc1030c⟩ := isOf hZ ec1025 f_991
       obtain ⟨_, _, ⟨Tc1030, Lc1030, kc1030, nc1030⟩, -, Xc1030, ⟨Lcc1030, hQc1030, lc1030, yc1030, zc1030⟩, stc1030⟩ := Xc1025.virtualBack hx (y := M11) (z := M11) hown (mvT hZ (ww hw 81 rfl)) (mvT hZ (ww hw 82 rfl)) (notFace_of_selects (args := #[]) (mvT hZ (ww hw 84 rfl))) (mvT hZ (ww hw 84 rfl)) (mvT hZ (ww hw 83 rfl)) (by decide) (backOf (W := 0) (rm15_14 l Z a0 hw [] i3 i4 i0 i3 i4 i0 (0 : Int32) (0 : Int32) (0 : Int32) (0 : Int32) (0 : Int32) (0 : Int32) (0 : Int32) (0 : Int32) (0 : Int32) o45 o2_c942 o31_c942 o9_c988 k2_c942 k31_c942 k9_c988 Tc988.heap n0 O1020  gb_o45 gn_o2_c942 gn_o31_c942 gn_o9_c988 ne_o45_o2_c942 ne_o45_o31_c942 ne_o45_o9_c988 nn_o2_c942_o31_c942 ne_o2_c942_o9_c988 ne_o31_c942_o9_c988 f_991 f_992 f_993 f_996 f_998 f_999 f_1001 f_1002 f_989 f_990) hZ (ww hw 85 rfl) (ww hw 2 rfl) (by decide) (by decide)) qc1030a qc1030c (g := (mkF m 200 Ls1023 [(.int i0), (.int i4), (.int i3), (.ref o45)])) rfl (by rw [hml]; rfl) (Steps.refl _) (argsL := [(.int i3), (.int i4), (.int i0)]) (rest := []) (lenOf pd5 rfl) rfl (by show 2 * 0 + _ ≤ _; exact Nat.le_of_eq rfl) (hb hby at_200) (fun _ _ => ⟨rfl, ec1025, (by decide : 13 + 0 ≤ _), (by decide : 72 + 0 ≤ _)⟩)
       dsimp only [Pt.U, Pt.locs, Pt.cells, Pt.slots] at Xc1030 lc1030 yc1030 zc1030 stc1030 hQc1030
       subst lc1030 yc1030 zc1030
       obtain ⟨Nqc1030, ec1030, hAc1030⟩ := hQc1030
       have Nc1030 := Fr.app Nc1025 Nqc1030
       rcases hAc1030 with ⟨rfl, g1031⟩ | ⟨rfl, g1032, g1033⟩ | ⟨rfl, g1034, g1035⟩
       ·
        exact (ar7 g1031).elim
       ·
        exact (ar8 g1033).elim
       ·
        have p1036 : ∀ t, St p e below Tc1030 (mkF m 203 Ls1023 [(.int (1 : Int32))]) t → S0 t := fun t k => p1029 t (stc1030.trans k)
        have p1037 : ∀ t, St p e below Tc1030 (mkF m 211 Ls1023 [(.int i2), (.int i1), (.int i0), (.ref o45)]) t → S0 t := fun t k => p1036 t (by
          refine XS.ifNo Xc1030.here hx rfl (hb hby at_203) rfl ((if0 _ _).trans (feq (by decide : ¬ ((1 : Int32) = (0 : Int32)))).1) ?_
          refine XS.aload Xc1030.here hx rfl (hb hby at_206) rfl rfl ?_
          refine XS.iloadN Xc1030.here hx rfl (hb hby at_208) rfl ?_
          refine XS.iloadN Xc1030.here hx rfl (hb hby at_209) rfl ?_
          refine XS.iloadN Xc1030.here hx rfl (hb hby at_210) rfl ?_
          exact k)
        obtain ⟨cqc1038, kqc1038, qc1038a, qc1038b, qc1038c⟩ := isOf hZ ec1030 f_991
        obtain ⟨_, _, ⟨Tc1038, Lc1038, kc1038, nc1038⟩, -, Xc1038, ⟨Lcc1038, hQc1038, lc1038, yc1038, zc1038⟩, stc1038⟩ := Xc1030.virtualBack hx (y := M11) (z := M11) hown (mvT hZ (ww hw 81 rfl)) (mvT hZ (ww hw 82 rfl)) (notFace_of_selects (args := #[]) (mvT hZ (ww hw 84 rfl))) (mvT hZ (ww hw 84 rfl)) (mvT hZ (ww hw 83 rfl)) (by decide) (backOf (W := 0) (rm15_14 l Z a0 hw [] i0 i1 i2 i3 i4 i0 (0 : Int32) (0 : Int32) (0 : Int32) (0 : Int32) (0 : Int32) (0 : Int32) (0 : Int32) (0 : Int32) (0 : Int32) o45 o2_c942 o31_c942 o9_c988 k2_c942 k31_c942 k9_c988 Tc988.heap n0 O1020  gb_o45 gn_o2_c942 gn_o31_c942 gn_o9_c988 ne_o45_o2_c942 ne_o45_o31_c942 ne_o45_o9_c988 nn_o2_c942_o31_c942 ne_o2_c942_o9_c988 ne_o31_c942_o9_c988 f_991 f_992 f_993 f_996 f_998 f_999 f_1001 f_1002 f_989 f_990) hZ (ww hw 85 rfl) (ww hw 2 rfl) (by decide) (by decide)) qc1038a qc1038c (g := (mkF m 211 Ls1023 [(.int i2), (.int i1), (.int i0), (.ref o45)])) rfl (by rw [hml]; rfl) (Steps.refl _) (argsL := [(.int i0), (.int i1), (.int i2)]) (rest := []) (lenOf pd5 rfl) rfl (by show 2 * 0 + _ ≤ _; exact Nat.le_of_eq rfl) (hb hby at_211) (fun _ _ => ⟨rfl, ec1030, (by decide : 13 + 0 ≤ _), (by decide : 72 + 0 ≤ _)⟩)
        dsimp only [Pt.U, Pt.locs, Pt.cells, Pt.slots] at Xc1038 lc1038 yc1038 zc1038 stc1038 hQc1038
        subst lc1038 yc1038 zc1038
        obtain ⟨Nqc1038, ec1038, hAc1038⟩ := hQc1038
        have Nc1038 := Fr.app Nc1030 Nqc1038
        rcases hAc1038 with ⟨rfl, g1039⟩ | ⟨rfl, g1040, g1041⟩ | ⟨rfl, g1042, g1043⟩
        ·
         exact (ar18 g512 g1039).elim
        ·
         exact (ar14 g511 g1041).elim
        ·
         have p1044 : ∀ t, St p e below Tc1038 (mkF m 214 Ls1023 [(.int (1 : Int32))]) t → S0 t := fun t k => p1037 t (stc1038.trans k)
         have p1045 : ∀ t, St p e below Tc1038 (mkF m 216 Ls1023 [(.int (own_isz (own_cmp3 i0 i1 i2 i3 i4 i0))), (.int (1 : Int32))]) t → S0 t := fun t k => p1044 t (by
           refine XS.iload Xc1038.here hx rfl (hb hby at_214) rfl ?_
           exact k)
         by_cases g1046 : (1 : Int32) = (own_isz (own_cmp3 i0 i1 i2 i3 i4 i0))
         ·
          have p1047 : ∀ t, St p e below Tc1038 (mkF m 226 Ls1023 []) t → S0 t := fun t k => p1045 t (by
            refine XS.icmpNo Xc1038.here hx rfl (hb hby at_216) rfl (teq g1046).2 ?_
            refine XT.iconstV Xc1038.here hx rfl (1 : Int32) (hb hby at_219) (by decide) ?_
            refine XS.goto Xc1038.here hx rfl (pc0 := 220) (pc' := 224) rfl (hb hby at_220) (by decide) (by decide) ?_
            refine XS.istore Xc1038.here hx rfl (hb hby at_224) rfl (l' := Ls1023) rfl ?_
            exact k)
          exact ⟨_, _, Xc1038, ec1038, Nc1038, p1047⟩
         ·
          exact (ar19 g908 g1046).elim
      let Ls1048 : Array Slot := #[.val (.int i0), .val (.int i1), .val (.int i2), .val (.int i3), .val (.int i4), .val (.int i5), .val (.int w2), .val (.int (1 : Int32)), .val (.int (own_isz (own_cmp3 i0 i1 i2 i3 i4 i0))), .val (.ref o45), .val (.long (1 : Int64)), .second, .val (.ref o14_c912), .val (.int (1 : Int32)), .val (.int (1 : Int32))]
      have p1049 : ∀ t, St p e below Tj1028 (mkF m 238 Ls1048 [(.ref o14_c912)]) t → S0 t := fun t k => pj1028 t (by
        refine XS.iload Xj1028.here hx rfl (hb hby at_226) rfl ?_
        refine XS.ifNo Xj1028.here hx rfl (hb hby at_228) rfl ((if0 _ _).trans (feq (by decide : ¬ ((1 : Int32) = (0 : Int32)))).1) ?_
        refine XS.iload Xj1028.here hx rfl (hb hby at_231) rfl ?_
        refine XS.ifNo Xj1028.here hx rfl (hb hby at_233) rfl ((if0 _ _).trans (feq (by decide : ¬ ((1 : Int32) = (0 : Int32)))).1) ?_
        refine XS.aload Xj1028.here hx rfl (hb hby at_236) rfl rfl ?_
        exact k)
      obtain ⟨cqc1050, kqc1050, qc1050a, qc1050b, qc1050c⟩ := isOf hZ ej1028 E_1011
      obtain ⟨_, _, ⟨Tc1050, Lc1050, kc1050, nc1050⟩, -, Xc1050, ⟨Lcc1050, hQc1050, lc1050, yc1050, zc1050⟩, stc1050⟩ := Xj1028.virtualBack hx (y := M10) (z := M10) hown (mvT hZ (ww hw 76 rfl)) (mvT hZ (ww hw 77 rfl)) (notFace_of_selects (args := #[]) (mvT hZ (ww hw 79 rfl))) (mvT hZ (ww hw 79 rfl)) (mvT hZ (ww hw 78 rfl)) (by decide) (backOf (W := 0) (rm14_12 l Z a0 hw [] (1 : Int64) o14_c912 Tc988.heap n0 O1020  gn_o14_c912 E_1011 F_1017) hZ (ww hw 80 rfl) (ww hw 2 rfl) (by decide) (by decide)) qc1050a qc1050c (g := (mkF m 238 Ls1048 [(.ref o14_c912)])) rfl (by rw [hml]; rfl) (Steps.refl _) (argsL := []) (rest := []) (lenOf pd8 rfl) rfl (by show 2 * 0 + _ ≤ _; exact Nat.le_of_eq rfl) (hb hby at_238) (fun _ _ => ⟨rfl, ej1028, (by decide : 13 + 0 ≤ _), (by decide : 72 + 0 ≤ _)⟩)
      dsimp only [Pt.U, Pt.locs, Pt.cells, Pt.slots] at Xc1050 lc1050 yc1050 zc1050 stc1050 hQc1050
      subst lc1050 yc1050 zc1050
      obtain ⟨Nqc1050, ec1050, hAc1050⟩ := hQc1050
      have Nc1050 := Fr.app Nj1028 Nqc1050
      obtain rfl := hAc1050
      have p1051 : ∀ t, St p e below Tc1050 (mkF m 241 Ls1048 [(.long (1 : Int64))]) t → S0 t := fun t k => p1049 t (stc1050.trans k)
      have p1052 : ∀ t, St p e below Tc1050 (mkF m 252 Ls1048 [(.int i2), (.int i1), (.int i0), (.ref o14_c912)]) t → S0 t := fun t k => p1051 t (by
        refine XS.lload Xc1050.here hx rfl (hb hby at_241) rfl ?_
        refine XS.lcmp Xc1050.here hx rfl (hb hby at_243) rfl ?_
        refine XS.ifNo Xc1050.here hx rfl (hb hby at_244) rfl ((if0 _ _).trans (teq (by decide : (0 : Int32) = (0 : Int32))).2) ?_
        refine XS.aload Xc1050.here hx rfl (hb hby at_247) rfl rfl ?_
        refine XS.iloadN Xc1050.here hx rfl (hb hby at_249) rfl ?_
        show St p e below Tc1050 (mkF m 250 Ls1048 [(.int i0), (.ref o14_c912)]) t
        refine XS.iloadN Xc1050.here hx rfl (hb hby at_250) rfl ?_
        refine XS.iloadN Xc1050.here hx rfl (hb hby at_251) rfl ?_
        exact k)
      obtain ⟨cqc1053, kqc1053, qc1053a, qc1053b, qc1053c⟩ := isOf hZ ec1050 E_1011
      obtain ⟨_, _, ⟨Tc1053, Lc1053, kc1053, nc1053⟩, -, Xc1053, ⟨Lcc1053, hQc1053, lc1053, yc1053, zc1053⟩, stc1053⟩ := Xc1050.virtualBack hx (y := M11) (z := M11) hown (mvT hZ (ww hw 81 rfl)) (mvT hZ (ww hw 82 rfl)) (notFace_of_selects (args := #[]) (mvT hZ (ww hw 84 rfl))) (mvT hZ (ww hw 84 rfl)) (mvT hZ (ww hw 83 rfl)) (by decide) (backOf (W := 0) (rm15_14 l Z a0 hw [] i0 i1 i2 i0 i1 i2 (0 : Int32) (0 : Int32) (0 : Int32) (0 : Int32) (0 : Int32) (0 : Int32) (0 : Int32) (0 : Int32) (0 : Int32) o14_c912 o5_c57 o34_c57 o9_c77 k5_c57 k34_c57 k9_c77 Tc988.heap n0 O1020  gn_o14_c912 gn_o5_c57 gn_o34_c57 gn_o9_c77 (Ne.symm ne_o5_c57_o14_c912) (Ne.symm ne_o34_c57_o14_c912) (Ne.symm ne_o9_c77_o14_c912) nn_o5_c57_o34_c57 ne_o5_c57_o9_c77 ne_o34_c57_o9_c77 E_1011 F_1012 F_1013 F_1016 V_1005 E_1006 V_1007 E_1008 V_1009 E_1010) hZ (ww hw 85 rfl) (ww hw 2 rfl) (by decide) (by decide)) qc1053a qc1053c (g := (mkF m 252 Ls1048 [(.int i2), (.int i1), (.int i0), (.ref o14_c912)])) rfl (by rw [hml]; rfl) (Steps.refl _) (argsL := [(.int i0), (.int i1), (.int i2)]) (rest := []) (lenOf pd5 rfl) rfl (by show 2 * 0 + _ ≤ _; exact Nat.le_of_eq rfl) (hb hby at_252) (fun _ _ => ⟨rfl, ec1050, (by decide : 13 + 0 ≤ _), (by decide : 72 + 0 ≤ _)⟩)
      dsimp only [Pt.U, Pt.locs, Pt.cells, Pt.slots] at Xc1053 lc1053 yc1053 zc1053 stc1053 hQc1053
      subst lc1053 yc1053 zc1053
      obtain ⟨Nqc1053, ec1053, hAc1053⟩ := hQc1053
      have Nc1053 := Fr.app Nc1050 Nqc1053
      rcases hAc1053 with ⟨rfl, g1054⟩ | ⟨rfl, g1055, g1056⟩ | ⟨rfl, g1057, g1058⟩
      ·
       exact (ar7 g1054).elim
      ·
       exact (ar8 g1056).elim
      ·
       have p1059 : ∀ t, St p e below Tc1053 (mkF m 255 Ls1048 [(.int (1 : Int32))]) t → S0 t := fun t k => p1052 t (stc1053.trans k)
       have p1060 : ∀ t, St p e below Tc1053 (mkF m 264 Ls1048 [(.int i0), (.int i4), (.int i3), (.ref o14_c912)]) t → S0 t := fun t k => p1059 t (by
         refine XS.ifNo Xc1053.here hx rfl (hb hby at_255) rfl ((if0 _ _).trans (feq (by decide : ¬ ((1 : Int32) = (0 : Int32)))).1) ?_
         refine XS.aload Xc1053.here hx rfl (hb hby at_258) rfl rfl ?_
         refine XS.iloadN Xc1053.here hx rfl (hb hby at_260) rfl ?_
         refine XS.iload Xc1053.here hx rfl (hb hby at_261) rfl ?_
         refine XS.iloadN Xc1053.here hx rfl (hb hby at_263) rfl ?_
         exact k)
       obtain ⟨cqc1061, kqc1061, qc1061a, qc1061b, qc1061c⟩ := isOf hZ ec1053 E_1011
       obtain ⟨_, _, ⟨Tc1061, Lc1061, kc1061, nc1061⟩, -, Xc1061, ⟨Lcc1061, hQc1061, lc1061, yc1061, zc1061⟩, stc1061⟩ := Xc1053.virtualBack hx (y := M11) (z := M11) hown (mvT hZ (ww hw 81 rfl)) (mvT hZ (ww hw 82 rfl)) (notFace_of_selects (args := #[]) (mvT hZ (ww hw 84 rfl))) (mvT hZ (ww hw 84 rfl)) (mvT hZ (ww hw 83 rfl)) (by decide) (backOf (W := 0) (rm15_14 l Z a0 hw [] i3 i4 i0 i0 i1 i2 (0 : Int32) (0 : Int32) (0 : Int32) (0 : Int32) (0 : Int32) (0 : Int32) (0 : Int32) (0 : Int32) (0 : Int32) o14_c912 o5_c57 o34_c57 o9_c77 k5_c57 k34_c57 k9_c77 Tc988.heap n0 O1020  gn_o14_c912 gn_o5_c57 gn_o34_c57 gn_o9_c77 (Ne.symm ne_o5_c57_o14_c912) (Ne.symm ne_o34_c57_o14_c912) (Ne.symm ne_o9_c77_o14_c912) nn_o5_c57_o34_c57 ne_o5_c57_o9_c77 ne_o34_c57_o9_c77 E_1011 F_1012 F_1013 F_1016 V_1005 E_1006 V_1007 E_1008 V_1009 E_1010) hZ (ww hw 85 rfl) (ww hw 2 rfl) (by decide) (by decide)) qc1061a qc1061c (g := (mkF m 264 Ls1048 [(.int i0), (.int i4), (.int i3), (.ref o14_c912)])) rfl (by rw [hml]; rfl) (Steps.refl _) (argsL := [(.int i3), (.int i4), (.int i0)]) (rest := []) (lenOf pd5 rfl) rfl (by show 2 * 0 + _ ≤ _; exact Nat.le_of_eq rfl) (hb hby at_264) (fun _ _ => ⟨rfl, ec1053, (by decide : 13 + 0 ≤ _), (by decide : 72 + 0 ≤ _)⟩)
       dsimp only [Pt.U, Pt.locs, Pt.cells, Pt.slots] at Xc1061 lc1061 yc1061 zc1061 stc1061 hQc1061
       subst lc1061 yc1061 zc1061
       obtain ⟨Nqc1061, ec1061, hAc1061⟩ := hQc1061
       have Nc1061 := Fr.app Nc1053 Nqc1061
       rcases hAc1061 with ⟨rfl, g1062⟩ | ⟨rfl, g1063, g1064⟩ | ⟨rfl, g1065, g1066⟩
       ·
        exact (ar16 g511 g1062).elim
       ·
        exact (ar20 g512 g1064).elim
       ·
        have p1067 : ∀ t, St p e below Tc1061 (mkF m 267 Ls1048 [(.int (1 : Int32))]) t → S0 t := fun t k => p1060 t (stc1061.trans k)
        have p1068 : ∀ t, St p e below Tc1061 (mkF m 294 Ls1048 [(.int (1 : Int32))]) t → S0 t := fun t k => p1067 t (by
          refine XS.iload Xc1061.here hx rfl (hb hby at_267) rfl ?_
          refine XS.ifYes Xc1061.here hx rfl (pc0 := 269) (pc' := 277) rfl (hb hby at_269) rfl ((if0 _ _).trans (feq g305).2) (by decide) (by decide) ?_
          refine XT.iconstV Xc1061.here hx rfl (1 : Int32) (hb hby at_277) (by decide) ?_
          refine XS.goto Xc1061.here hx rfl (pc0 := 278) (pc' := 282) rfl (hb hby at_278) (by decide) (by decide) ?_
          refine XS.icmpNo Xc1061.here hx rfl (hb hby at_282) rfl (teq (by decide : (1 : Int32) = (1 : Int32))).2 ?_
          show St p e below Tc1061 (mkF m 285 Ls1048 []) t
          refine XT.iconstV Xc1061.here hx rfl (1 : Int32) (hb hby at_285) (by decide) ?_
          refine XS.goto Xc1061.here hx rfl (pc0 := 286) (pc' := 290) rfl (hb hby at_286) (by decide) (by decide) ?_
          refine XS.istore Xc1061.here hx rfl (hb hby at_290) rfl (l' := Ls1048) rfl ?_
          refine XS.iload Xc1061.here hx rfl (hb hby at_292) rfl ?_
          exact k)
        obtain ⟨fs, hr, hrun, hended, hW, hsame⟩ := Xc1061.leave (v := some (.int (1 : Int32))) (fun h => by rw [Bd.returns] at h; cases h)
        refine ⟨_, _, p1068 _ ?_, hrun, hended, _, _, rfl, ?_, ⟨_, rfl⟩, hW, hsame.mono (by decide) (by decide)⟩
        · exact retOut Xc1061 hx Bd.returns rfl (Or.inl ⟨rfl, by simp, _, rfl⟩) (hb hby at_294) hr
        · exact ⟨rfl, Nc1061⟩
  ·
   exact (ar21 g14 g15 g97 g301).elim
set_option maxRecDepth 65536 in
set_option maxHeartbeats 40000000 in
theorem comes_1 {Post : Tables → Env → Array Value → State → Outcome → State → Prop} (hpost : ∀ tb e args s v u, (limb_1_1.after args s (.returned v) u = true ∧ limb_1_2.after args s (.returned v) u = true ∧ True) → FrameEnd s (.returned v) u (Jvm.fieldLocs frame_1_writes args s ++ Jvm.arrayLocs frame_1_arrays args s ++ Jvm.staticLocs frame_1_statics s) 40 256 → Post tb e args s (.returned v) u) :
    ArmFor flags0 classFile x code maxLocals ret World_1 tables_1 room_1 Calls_1 rest_1 Pre_1 Post := by
  intro l hfl _ _ p e ha hc hk s m args below hf hA hF happ hP
  obtain ⟨hcalls, hrest, hpre⟩ := hP
  obtain ⟨-, -, -, hnamed, -, -, -, hat⟩ := (Spec.applies_iff hf).mp happ
  obtain ⟨hg, hn⟩ := and_e (Cond.before_iff.mp (show (Jvm.Cond.and given_1 narrow_1).before args s = true from hpre))
  obtain ⟨hj1a, hj1b⟩ := and_e hg
  obtain ⟨hj2a, hj2b⟩ := and_e hj1b
  obtain ⟨hj3a, hj3b⟩ := and_e hj2b
  obtain ⟨hj4a, hj4b⟩ := and_e hj3b
  obtain ⟨hj5a, hj5b⟩ := and_e hj4b
  obtain ⟨hj6a, hj6b⟩ := and_e hj5b
  obtain ⟨w0, w1, w2, w3, w4, w5, rfl⟩ : ∃ w0 w1 w2 w3 w4 w5 : Value, args = #[w0, w1, w2, w3, w4, w5] := by
    have hs : args.size = 6 := by simpa [Cond.value, given_1] using hj1a
    obtain ⟨L⟩ := args
    match L, hs with
    | [w0, w1, w2, w3, w4, w5], _ => exact ⟨w0, w1, w2, w3, w4, w5, rfl⟩
  have hw := fun d (hd : d ∈ tables_1) => atoms_spec (ws := Jvm.Cond.code x code maxLocals ret :: tables_1) hat d (List.mem_cons_of_mem _ hd)
  have hfit : Fit s := fun {y c} hc i hi => by
    obtain ⟨ha, rfl⟩ := Array.getElem?_eq_some_iff.mp hc
    have q := List.all_eq_true.mp ((Array.all_eq_true_iff_forall_mem.mp hF) _ (Array.getElem_mem ha)) i (List.mem_range.mpr hi)
    simpa [Array.getElem?_eq_getElem hi] using q
  obtain ⟨i0, ei0⟩ := is_v hj2a
  obtain rfl : w0 = (.int i0) := Option.some.inj ei0
  obtain ⟨i1, ei1⟩ := is_v hj3a
  obtain rfl : w1 = (.int i1) := Option.some.inj ei1
  obtain ⟨i2, ei2⟩ := is_v hj4a
  obtain rfl : w2 = (.int i2) := Option.some.inj ei2
  obtain ⟨i3, ei3⟩ := is_v hj5a
  obtain rfl : w3 = (.int i3) := Option.some.inj ei3
  obtain ⟨i4, ei4⟩ := is_v hj6a
  obtain rfl : w4 = (.int i4) := Option.some.inj ei4
  obtain ⟨i5, ei5⟩ := is_v hj6b
  obtain rfl : w5 = (.int i5) := Option.some.inj ei5
  obtain ⟨n, o, h1, h2, h3, _, L, rfl, ⟨rfl, N⟩, hq⟩ := rm0 l s _ hw tables_1 i0 i1 i2 i3 i4 i5 s.heap s.heap.size (Old.start s) p e ha hc hk s m _ below hf ((Spec.applies_iff_loose hf).mp happ).1 ⟨rfl, State.Warmed39.refl s, rfl⟩ trivial
  refine ⟨n, _, h1, h2, h3, hpost _ _ _ _ _ _ ⟨Cond.after_iff.mpr rfl, Cond.after_iff.mpr (eq_i res_at (Term.int_eval (1)) rfl), trivial⟩ ⟨hq.1, hq.2.1, (hq.2.2.sift fun y hy => Or.inr (N y hy)).mono (by decide) (by decide)⟩⟩
theorem main_1_1 : Claimed_1_1 := comes_1 fun _ _ _ _ _ _ h hF => ⟨h.1, hF⟩
theorem main_1_2 : Claimed_1_2 := comes_1 fun _ _ _ _ _ _ h hF => ⟨h.2.1, hF⟩
end Jvm.Pilot.@@N@@
namespace Jvm.Pilot.@@N@@
open Jvm Jvm.ClassFile Sem Op Lib Jvm.Free Jvm.Stand Jvm.Pilot.@@N@@.Jvm.D
/-! MADE BY PROGRAM (witnessworld.py) out of the Statement's table words and the real class files: 17 classes; the members and pool entries that the words name. The judged class is class 1, her method 1. -/
namespace start1
open Jvm.ClassFile
def u (s : String) : CpInfo := .utf8 (stringToUtf16 s)
/-- a pool by its gaps: so many unusable entries, then the entry; so many at the end -/
def gap : Nat → List CpInfo → List CpInfo
  | 0, r => r
  | n + 1, r => .unusable :: gap n r
def poolList (es : List (Nat × CpInfo)) (last : Nat) : List CpInfo := es.foldr (fun e r => gap e.1 (e.2 :: r)) (gap last [])
def pool (es : List (Nat × CpInfo)) (last : Nat) : Array CpInfo := ⟨poolList es last⟩
def fileOf (pool : Array CpInfo) (this : Nat) (attrs : Array Attribute := #[]) (ms : Array MethodInfo := #[]) (fl : Nat := 33) (sup : Nat := 0) (ifs : Array Nat := #[]) (fds : Array FieldInfo := #[]) : ClassFile where
  minorVersion := 0
  majorVersion := 65
  constantPool := pool
  accessFlags := fl
  thisClass := this
  superClass := sup
  interfaces := ifs
  fields := fds
  methods := ms
  attributes := attrs
def plain (name : String) (sup : Option ClassId) : Class where
  name := name
  kind := .ordinary
  loader := none
  accessFlags := 33
  super := sup
  interfaces := #[]
  cf := none
  fields := #[]
  methods := #[]
  instanceTypes := #[]
  staticTypes := #[]
  resolved := #[]
  callSites := []
  init := .initialized
  statics := none
  mirror := none

def pool0 : Array CpInfo := pool [(5, u "<init>"), (0, u "()V"), (1, .class_ 10), (1, u "java/lang/Object")] 113

def k0c0 : Code := { maxStack := 0, maxLocals := 1, code := object_method_1_code, exceptionTable := #[], attributes := #[] }
def k0m0 : Method := { name := "<init>", desc := "()V", sig := { parameters := [], returnType := none }, accessFlags := 1, code := some k0c0 }
/-- java/lang/Object -/
def k0 : Class := { plain "java/lang/Object" none with
  accessFlags := 33
  interfaces := #[]
  cf := some (fileOf pool0 8 #[] #[{ accessFlags := 1, nameIndex := 5, descriptorIndex := 6, attributes := #[] }] 33 0 #[] #[])
  fields := #[]
  methods := #[k0m0]
  instanceTypes := #[]
  staticTypes := #[]
  resolved := Array.replicate 124 none
  statics := none }

def pool1 : Array CpInfo := pool [(2, .class_ 4), (0, .nameAndType 5 6), (0, u "java/lang/Object"), (0, u "<init>"), (0, u "()V"), (0, .class_ 8), (0, u "com/example/quadrille/quadrille/store/SortedTriples"), (0, .methodref 7 3), (0, .methodref 7 11), (0, .nameAndType 12 13), (0, u "add"), (0, u "(III)Z"), (0, .long 2), (1, .methodref 7 17), (0, .nameAndType 18 19), (0, u "copy"), (0, u "()Lcom/example/quadrille/quadrille/store/SortedTriples;"), (0, .methodref 7 21), (0, .nameAndType 22 6), (0, u "clear"), (0, .methodref 7 24), (0, .nameAndType 25 26), (0, u "size"), (0, u "()J"), (0, .methodref 7 28), (0, .nameAndType 29 13), (0, u "contains"), (0, .class_ 31), (0, u "com/example/quadrille/quadrille/store/SortedTriplesClearPinLaw"), (2, u "law"), (0, u "(IIIIII)Z")] 3

def k1m0 : Method := { name := "<init>", desc := "()V", sig := { parameters := [], returnType := none }, accessFlags := 1, code := none }
def k1c1 : Code := { maxStack := 4, maxLocals := 15, code := code, exceptionTable := #[], attributes := #[] }
def k1m1 : Method := { name := "law", desc := "(IIIIII)Z", sig := { parameters := [.int, .int, .int, .int, .int, .int], returnType := some .boolean }, accessFlags := 9, code := some k1c1 }
/-- com/example/quadrille/quadrille/store/SortedTriplesClearPinLaw -/
def k1 : Class := { plain "com/example/quadrille/quadrille/store/SortedTriplesClearPinLaw" (some 0) with
  accessFlags := 49
  interfaces := #[]
  cf := some (fileOf pool1 30 #[] #[{ accessFlags := 1, nameIndex := 5, descriptorIndex := 6, attributes := #[] }, { accessFlags := 9, nameIndex := 34, descriptorIndex := 35, attributes := #[] }] 49 2 #[] #[])
  fields := #[]
  methods := #[k1m0, k1m1]
  instanceTypes := #[]
  staticTypes := #[]
  resolved := Array.replicate 39 none
  statics := none }

def pool2 : Array CpInfo := pool [(1, .class_ 2), (0, u "com/example/quadrille/quadrille/store/SortedTriples"), (0, .methodref 4 5), (0, .class_ 6), (0, .nameAndType 7 8), (0, u "java/lang/Object"), (0, u "<init>"), (0, u "()V"), (0, .class_ 10), (0, u "[I"), (0, .fieldref 1 12), (0, .nameAndType 13 14), (0, u "blocks"), (0, u "[[I"), (0, .fieldref 1 16), (0, .nameAndType 17 10), (0, u "counts"), (0, .fieldref 1 19), (0, .nameAndType 20 21), (0, u "owned"), (0, u "[Z"), (0, .fieldref 1 23), (0, .nameAndType 24 25), (0, u "blockCount"), (0, u "I"), (0, .fieldref 1 27), (0, .nameAndType 28 29), (0, u "size"), (0, u "J"), (0, .fieldref 1 31), (0, .nameAndType 32 33), (0, u "shared"), (0, u "Z"), (0, .methodref 1 35), (0, .nameAndType 7 36), (0, u "([[I[IIJ)V"), (0, .methodref 1 38), (0, .nameAndType 39 40), (0, u "blockFor"), (0, u "(III)I"), (0, .methodref 1 42), (0, .nameAndType 43 44), (0, u "search"), (0, u "([IIIII)I"), (0, .methodref 1 46), (0, .nameAndType 47 8), (0, u "unshare"), (0, .methodref 1 49), (0, .nameAndType 50 51), (0, u "insertBlock"), (0, u "(I[I)V"), (9, u "(II)I"), (6, .methodref 1 69), (0, .nameAndType 70 71), (0, u "writable"), (0, u "(I)[I"), (0, .methodref 73 74), (0, .class_ 75), (0, .nameAndType 76 77), (0, u "java/lang/System"), (0, u "arraycopy"), (0, u "(Ljava/lang/Object;ILjava/lang/Object;II)V"), (3, .methodref 1 82), (0, .nameAndType 83 84), (0, u "comparePrefix"), (0, u "([IIIIII)I"), (4, .class_ 91), (1, u "com/example/quadrille/quadrille/store/SortedTriples$RowAction"), (2, .methodref 95 96), (0, .class_ 97), (0, .nameAndType 98 61), (0, u "java/lang/Integer"), (0, u "compare"), (12, u "BLOCK_ROWS"), (2, u "ROW"), (1, u "FIRST_CAPACITY"), (3, u "copy"), (0, u "()Lcom/example/quadrille/quadrille/store/SortedTriples;"), (0, u "()J"), (0, u "contains"), (0, u "(III)Z"), (1, u "add"), (1, u "clear")] 7

def k2c0 : Code := { maxStack := 2, maxLocals := 1, code := prog_155_method_1_code, exceptionTable := #[], attributes := #[] }
def k2m0 : Method := { name := "<init>", desc := "()V", sig := { parameters := [], returnType := none }, accessFlags := 0, code := some k2c0 }
def k2c1 : Code := { maxStack := 3, maxLocals := 6, code := prog_155_method_2_code, exceptionTable := #[], attributes := #[] }
def k2m1 : Method := { name := "<init>", desc := "([[I[IIJ)V", sig := { parameters := [(.array (.array .int)), (.array .int), .int, .long], returnType := none }, accessFlags := 2, code := some k2c1 }
def k2c2 : Code := { maxStack := 7, maxLocals := 1, code := prog_155_method_3_code, exceptionTable := #[], attributes := #[] }
def k2m2 : Method := { name := "copy", desc := "()Lcom/example/quadrille/quadrille/store/SortedTriples;", sig := { parameters := [], returnType := some (.object "com/example/quadrille/quadrille/store/SortedTriples") }, accessFlags := 0, code := some k2c2 }
def k2c3 : Code := { maxStack := 2, maxLocals := 1, code := prog_155_method_4_code, exceptionTable := #[], attributes := #[] }
def k2m3 : Method := { name := "size", desc := "()J", sig := { parameters := [], returnType := some .long }, accessFlags := 0, code := some k2c3 }
def k2c4 : Code := { maxStack := 5, maxLocals := 5, code := prog_155_method_5_code, exceptionTable := #[], attributes := #[] }
def k2m4 : Method := { name := "contains", desc := "(III)Z", sig := { parameters := [.int, .int, .int], returnType := some .boolean }, accessFlags := 0, code := some k2c4 }
def k2c5 : Code := { maxStack := 6, maxLocals := 8, code := prog_155_method_6_code, exceptionTable := #[], attributes := #[] }
def k2m5 : Method := { name := "add", desc := "(III)Z", sig := { parameters := [.int, .int, .int], returnType := some .boolean }, accessFlags := 0, code := some k2c5 }
def k2c6 : Code := { maxStack := 3, maxLocals := 1, code := prog_155_method_8_code, exceptionTable := #[], attributes := #[] }
def k2m6 : Method := { name := "clear", desc := "()V", sig := { parameters := [], returnType := none }, accessFlags := 0, code := some k2c6 }
def k2c7 : Code := { maxStack := 6, maxLocals := 7, code := prog_155_method_10_code, exceptionTable := #[], attributes := #[] }
def k2m7 : Method := { name := "blockFor", desc := "(III)I", sig := { parameters := [.int, .int, .int], returnType := some .int }, accessFlags := 2, code := some k2c7 }
def k2c8 : Code := { maxStack := 6, maxLocals := 9, code := prog_155_method_11_code, exceptionTable := #[], attributes := #[] }
def k2m8 : Method := { name := "search", desc := "([IIIII)I", sig := { parameters := [(.array .int), .int, .int, .int, .int], returnType := some .int }, accessFlags := 10, code := some k2c8 }
def k2c9 : Code := { maxStack := 3, maxLocals := 7, code := prog_155_method_13_code, exceptionTable := #[], attributes := #[] }
def k2m9 : Method := { name := "comparePrefix", desc := "([IIIIII)I", sig := { parameters := [(.array .int), .int, .int, .int, .int, .int], returnType := some .int }, accessFlags := 10, code := some k2c9 }
def k2c10 : Code := { maxStack := 2, maxLocals := 1, code := prog_155_method_14_code, exceptionTable := #[], attributes := #[] }
def k2m10 : Method := { name := "unshare", desc := "()V", sig := { parameters := [], returnType := none }, accessFlags := 2, code := some k2c10 }
def k2c11 : Code := { maxStack := 4, maxLocals := 2, code := prog_155_method_15_code, exceptionTable := #[], attributes := #[] }
def k2m11 : Method := { name := "writable", desc := "(I)[I", sig := { parameters := [.int], returnType := some (.array .int) }, accessFlags := 2, code := some k2c11 }
def k2c12 : Code := { maxStack := 6, maxLocals := 3, code := prog_155_method_17_code, exceptionTable := #[], attributes := #[] }
def k2m12 : Method := { name := "insertBlock", desc := "(I[I)V", sig := { parameters := [.int, (.array .int)], returnType := none }, accessFlags := 2, code := some k2c12 }
/-- com/example/quadrille/quadrille/store/SortedTriples -/
def k2 : Class := { plain "com/example/quadrille/quadrille/store/SortedTriples" (some 0) with
  accessFlags := 48
  interfaces := #[]
  cf := some (fileOf pool2 1 #[.nestMembers #[89]] #[{ accessFlags := 0, nameIndex := 7, descriptorIndex := 8, attributes := #[] }, { accessFlags := 2, nameIndex := 7, descriptorIndex := 36, attributes := #[] }, { accessFlags := 0, nameIndex := 120, descriptorIndex := 121, attributes := #[] }, { accessFlags := 0, nameIndex := 28, descriptorIndex := 122, attributes := #[] }, { accessFlags := 0, nameIndex := 123, descriptorIndex := 124, attributes := #[] }, { accessFlags := 0, nameIndex := 126, descriptorIndex := 124, attributes := #[] }, { accessFlags := 0, nameIndex := 128, descriptorIndex := 8, attributes := #[] }, { accessFlags := 2, nameIndex := 39, descriptorIndex := 40, attributes := #[] }, { accessFlags := 10, nameIndex := 43, descriptorIndex := 44, attributes := #[] }, { accessFlags := 10, nameIndex := 83, descriptorIndex := 84, attributes := #[] }, { accessFlags := 2, nameIndex := 47, descriptorIndex := 8, attributes := #[] }, { accessFlags := 2, nameIndex := 70, descriptorIndex := 71, attributes := #[] }, { accessFlags := 2, nameIndex := 50, descriptorIndex := 51, attributes := #[] }] 48 4 #[] #[{ accessFlags := 26, nameIndex := 111, descriptorIndex := 25, attributes := #[] }, { accessFlags := 26, nameIndex := 114, descriptorIndex := 25, attributes := #[] }, { accessFlags := 26, nameIndex := 116, descriptorIndex := 25, attributes := #[] }, { accessFlags := 2, nameIndex := 13, descriptorIndex := 14, attributes := #[] }, { accessFlags := 2, nameIndex := 17, descriptorIndex := 10, attributes := #[] }, { accessFlags := 2, nameIndex := 20, descriptorIndex := 21, attributes := #[] }, { accessFlags := 2, nameIndex := 32, descriptorIndex := 33, attributes := #[] }, { accessFlags := 2, nameIndex := 24, descriptorIndex := 25, attributes := #[] }, { accessFlags := 2, nameIndex := 28, descriptorIndex := 29, attributes := #[] }])
  fields := #[{ name := "BLOCK_ROWS", type := .int, accessFlags := 26, slot := 0, constantValue := 0 }, { name := "ROW", type := .int, accessFlags := 26, slot := 1, constantValue := 0 }, { name := "FIRST_CAPACITY", type := .int, accessFlags := 26, slot := 2, constantValue := 0 }, { name := "blocks", type := (.array (.array .int)), accessFlags := 2, slot := 0, constantValue := 0 }, { name := "counts", type := (.array .int), accessFlags := 2, slot := 1, constantValue := 0 }, { name := "owned", type := (.array .boolean), accessFlags := 2, slot := 2, constantValue := 0 }, { name := "shared", type := .boolean, accessFlags := 2, slot := 3, constantValue := 0 }, { name := "blockCount", type := .int, accessFlags := 2, slot := 4, constantValue := 0 }, { name := "size", type := .long, accessFlags := 2, slot := 5, constantValue := 0 }]
  methods := #[k2m0, k2m1, k2m2, k2m3, k2m4, k2m5, k2m6, k2m7, k2m8, k2m9, k2m10, k2m11, k2m12]
  instanceTypes := #[(.array (.array .int)), (.array .int), (.array .boolean), .boolean, .int, .long]
  staticTypes := #[.int, .int, .int]
  resolved := Array.replicate 136 none
  statics := none }

def pool3 : Array CpInfo := pool [(2, .class_ 4), (1, u "java/lang/Object"), (0, u "<init>"), (0, u "()V"), (1, .class_ 10), (1, u "java/lang/System"), (0, u "allowSecurityManager"), (0, u "I"), (16, u "cons"), (0, u "Ljava/io/Console;"), (77, .class_ 110), (1, u "java/lang/System$CallersHolder"), (43, u "initialErrStream"), (0, u "Ljava/io/PrintStream;"), (19, u "security"), (0, u "Ljava/lang/SecurityManager;"), (31, .class_ 209), (0, u "java/lang/System$1"), (7, u "props"), (0, u "Ljava/util/Properties;"), (2, u "lineSeparator"), (0, u "Ljava/lang/String;"), (96, .class_ 321), (1, u "java/lang/System$LoggerFinder"), (5, .class_ 328), (0, u "java/lang/System$Logger"), (67, u "err"), (2, u "out"), (91, u "notSupportedJnuEncoding"), (15, u "in"), (17, u "initialIn"), (0, u "Ljava/io/InputStream;"), (35, u "bootLayer"), (0, u "Ljava/lang/ModuleLayer;"), (99, .class_ 664), (0, u "java/lang/System$2"), (9, u "NEVER"), (2, u "MAYBE"), (49, u "arraycopy"), (0, u "(Ljava/lang/Object;ILjava/lang/Object;II)V"), (72, .class_ 802), (0, u "java/lang/System$Logger$Level")] 31

def k3m0 : Method := { name := "<init>", desc := "()V", sig := { parameters := [], returnType := none }, accessFlags := 2, code := none }
def k3m1 : Method := { name := "arraycopy", desc := "(Ljava/lang/Object;ILjava/lang/Object;II)V", sig := { parameters := [(.object "java/lang/Object"), .int, (.object "java/lang/Object"), .int, .int], returnType := none }, accessFlags := 265, code := none }
/-- java/lang/System -/
def k3 : Class := { plain "java/lang/System" (some 0) with
  accessFlags := 49
  interfaces := #[]
  cf := some (fileOf pool3 8 #[.nestMembers #[319, 327, 801, 108, 663, 208]] #[{ accessFlags := 2, nameIndex := 5, descriptorIndex := 6, attributes := #[] }, { accessFlags := 265, nameIndex := 727, descriptorIndex := 728, attributes := #[] }] 49 2 #[] #[{ accessFlags := 25, nameIndex := 507, descriptorIndex := 526, attributes := #[] }, { accessFlags := 25, nameIndex := 399, descriptorIndex := 155, attributes := #[] }, { accessFlags := 25, nameIndex := 396, descriptorIndex := 155, attributes := #[] }, { accessFlags := 10, nameIndex := 525, descriptorIndex := 526, attributes := #[] }, { accessFlags := 26, nameIndex := 674, descriptorIndex := 12, attributes := #[] }, { accessFlags := 26, nameIndex := 677, descriptorIndex := 12, attributes := #[] }, { accessFlags := 10, nameIndex := 11, descriptorIndex := 12, attributes := #[] }, { accessFlags := 74, nameIndex := 175, descriptorIndex := 176, attributes := #[] }, { accessFlags := 10, nameIndex := 491, descriptorIndex := 222, attributes := #[] }, { accessFlags := 74, nameIndex := 29, descriptorIndex := 30, attributes := #[] }, { accessFlags := 74, nameIndex := 154, descriptorIndex := 155, attributes := #[] }, { accessFlags := 10, nameIndex := 217, descriptorIndex := 218, attributes := #[] }, { accessFlags := 10, nameIndex := 221, descriptorIndex := 222, attributes := #[] }, { accessFlags := 8, nameIndex := 562, descriptorIndex := 563, attributes := #[] }])
  fields := #[{ name := "in", type := (.object "java/io/InputStream"), accessFlags := 25, slot := 0, constantValue := 0 }, { name := "out", type := (.object "java/io/PrintStream"), accessFlags := 25, slot := 1, constantValue := 0 }, { name := "err", type := (.object "java/io/PrintStream"), accessFlags := 25, slot := 2, constantValue := 0 }, { name := "initialIn", type := (.object "java/io/InputStream"), accessFlags := 10, slot := 3, constantValue := 0 }, { name := "NEVER", type := .int, accessFlags := 26, slot := 4, constantValue := 0 }, { name := "MAYBE", type := .int, accessFlags := 26, slot := 5, constantValue := 0 }, { name := "allowSecurityManager", type := .int, accessFlags := 10, slot := 6, constantValue := 0 }, { name := "security", type := (.object "java/lang/SecurityManager"), accessFlags := 74, slot := 7, constantValue := 0 }, { name := "notSupportedJnuEncoding", type := (.object "java/lang/String"), accessFlags := 10, slot := 8, constantValue := 0 }, { name := "cons", type := (.object "java/io/Console"), accessFlags := 74, slot := 9, constantValue := 0 }, { name := "initialErrStream", type := (.object "java/io/PrintStream"), accessFlags := 74, slot := 10, constantValue := 0 }, { name := "props", type := (.object "java/util/Properties"), accessFlags := 10, slot := 11, constantValue := 0 }, { name := "lineSeparator", type := (.object "java/lang/String"), accessFlags := 10, slot := 12, constantValue := 0 }, { name := "bootLayer", type := (.object "java/lang/ModuleLayer"), accessFlags := 8, slot := 13, constantValue := 0 }]
  methods := #[k3m0, k3m1]
  instanceTypes := #[]
  staticTypes := #[(.object "java/io/InputStream"), (.object "java/io/PrintStream"), (.object "java/io/PrintStream"), (.object "java/io/InputStream"), .int, .int, .int, (.object "java/lang/SecurityManager"), (.object "java/lang/String"), (.object "java/io/Console"), (.object "java/io/PrintStream"), (.object "java/util/Properties"), (.object "java/lang/String"), (.object "java/lang/ModuleLayer")]
  resolved := Array.replicate 834 none
  statics := none }

def pool4 : Array CpInfo := pool [(1, .class_ 2), (0, u "java/io/Serializable"), (0, .class_ 4), (0, u "java/lang/Object")] 2

/-- java/io/Serializable -/
def k4 : Class := { plain "java/io/Serializable" (some 0) with
  accessFlags := 1537
  interfaces := #[]
  cf := some (fileOf pool4 1 #[] #[] 1537 3 #[] #[])
  fields := #[]
  methods := #[]
  instanceTypes := #[]
  staticTypes := #[]
  resolved := Array.replicate 7 none
  statics := none }

def pool5 : Array CpInfo := pool [(2, .class_ 4), (1, u "java/lang/Object"), (0, u "<init>"), (0, u "()V"), (1, .class_ 10), (1, u "java/lang/Number"), (2, .class_ 14), (0, u "java/io/Serializable"), (0, u "serialVersionUID"), (0, u "J")] 20

def k5m0 : Method := { name := "<init>", desc := "()V", sig := { parameters := [], returnType := none }, accessFlags := 1, code := none }
/-- java/lang/Number -/
def k5 : Class := { plain "java/lang/Number" (some 0) with
  accessFlags := 1057
  interfaces := #[4]
  cf := some (fileOf pool5 8 #[] #[{ accessFlags := 1, nameIndex := 5, descriptorIndex := 6, attributes := #[] }] 1057 2 #[13] #[{ accessFlags := 26, nameIndex := 15, descriptorIndex := 16, attributes := #[] }])
  fields := #[{ name := "serialVersionUID", type := .long, accessFlags := 26, slot := 0, constantValue := 0 }]
  methods := #[k5m0]
  instanceTypes := #[]
  staticTypes := #[.long]
  resolved := Array.replicate 37 none
  statics := none }

def pool6 : Array CpInfo := pool [(1, .class_ 2), (0, u "java/lang/Comparable"), (0, .class_ 4), (0, u "java/lang/Object")] 7

/-- java/lang/Comparable -/
def k6 : Class := { plain "java/lang/Comparable" (some 0) with
  accessFlags := 1537
  interfaces := #[]
  cf := some (fileOf pool6 1 #[] #[] 1537 3 #[] #[])
  fields := #[]
  methods := #[]
  instanceTypes := #[]
  staticTypes := #[]
  resolved := Array.replicate 12 none
  statics := none }

def pool7 : Array CpInfo := pool [(1, .class_ 2), (0, u "java/lang/constant/Constable"), (0, .class_ 4), (0, u "java/lang/Object")] 6

/-- java/lang/constant/Constable -/
def k7 : Class := { plain "java/lang/constant/Constable" (some 0) with
  accessFlags := 1537
  interfaces := #[]
  cf := some (fileOf pool7 1 #[] #[] 1537 3 #[] #[])
  fields := #[]
  methods := #[]
  instanceTypes := #[]
  staticTypes := #[]
  resolved := Array.replicate 11 none
  statics := none }

def pool8 : Array CpInfo := pool [(1, .class_ 2), (0, u "java/lang/constant/ConstantDesc"), (0, .class_ 4), (0, u "java/lang/Object")] 32

/-- java/lang/constant/ConstantDesc -/
def k8 : Class := { plain "java/lang/constant/ConstantDesc" (some 0) with
  accessFlags := 1537
  interfaces := #[]
  cf := some (fileOf pool8 1 #[] #[] 1537 3 #[] #[])
  fields := #[]
  methods := #[]
  instanceTypes := #[]
  staticTypes := #[]
  resolved := Array.replicate 37 none
  statics := none }

def pool9 : Array CpInfo := pool [(1, .class_ 2), (0, u "java/lang/Integer"), (16, u "digits"), (0, u "[C"), (39, u "(II)I"), (24, u "DigitOnes"), (0, u "[B"), (2, u "DigitTens"), (99, .class_ 190), (0, u "java/lang/Integer$IntegerCache"), (3, u "I"), (8, .class_ 204), (0, u "java/lang/Number"), (2, u "value"), (53, u "compare"), (40, u "TYPE"), (0, u "Ljava/lang/Class;"), (0, .class_ 305), (0, u "java/lang/Comparable"), (0, .class_ 307), (0, u "java/lang/constant/Constable"), (0, .class_ 309), (0, u "java/lang/constant/ConstantDesc"), (0, u "MIN_VALUE"), (1, u "MAX_VALUE"), (3, u "SIZE"), (1, u "BYTES"), (1, u "serialVersionUID"), (0, u "J")] 131

def k9c0 : Code := { maxStack := 2, maxLocals := 2, code := jdk_33_method_40_code, exceptionTable := #[], attributes := #[] }
def k9m0 : Method := { name := "compare", desc := "(II)I", sig := { parameters := [.int, .int], returnType := some .int }, accessFlags := 9, code := some k9c0 }
/-- java/lang/Integer -/
def k9 : Class := { plain "java/lang/Integer" (some 5) with
  accessFlags := 49
  interfaces := #[6, 7, 8]
  cf := some (fileOf pool9 1 #[.nestMembers #[189]] #[{ accessFlags := 9, nameIndex := 261, descriptorIndex := 60, attributes := #[] }] 49 203 #[304, 306, 308] #[{ accessFlags := 25, nameIndex := 310, descriptorIndex := 194, attributes := #[] }, { accessFlags := 25, nameIndex := 312, descriptorIndex := 194, attributes := #[] }, { accessFlags := 25, nameIndex := 302, descriptorIndex := 303, attributes := #[] }, { accessFlags := 24, nameIndex := 19, descriptorIndex := 20, attributes := #[] }, { accessFlags := 24, nameIndex := 89, descriptorIndex := 86, attributes := #[] }, { accessFlags := 24, nameIndex := 85, descriptorIndex := 86, attributes := #[] }, { accessFlags := 18, nameIndex := 207, descriptorIndex := 194, attributes := #[] }, { accessFlags := 25, nameIndex := 316, descriptorIndex := 194, attributes := #[] }, { accessFlags := 25, nameIndex := 318, descriptorIndex := 194, attributes := #[] }, { accessFlags := 26, nameIndex := 320, descriptorIndex := 321, attributes := #[] }])
  fields := #[{ name := "MIN_VALUE", type := .int, accessFlags := 25, slot := 0, constantValue := 0 }, { name := "MAX_VALUE", type := .int, accessFlags := 25, slot := 1, constantValue := 0 }, { name := "TYPE", type := (.object "java/lang/Class"), accessFlags := 25, slot := 2, constantValue := 0 }, { name := "digits", type := (.array .char), accessFlags := 24, slot := 3, constantValue := 0 }, { name := "DigitTens", type := (.array .byte), accessFlags := 24, slot := 4, constantValue := 0 }, { name := "DigitOnes", type := (.array .byte), accessFlags := 24, slot := 5, constantValue := 0 }, { name := "value", type := .int, accessFlags := 18, slot := 0, constantValue := 0 }, { name := "SIZE", type := .int, accessFlags := 25, slot := 6, constantValue := 0 }, { name := "BYTES", type := .int, accessFlags := 25, slot := 7, constantValue := 0 }, { name := "serialVersionUID", type := .long, accessFlags := 26, slot := 8, constantValue := 0 }]
  methods := #[k9m0]
  instanceTypes := #[.int]
  staticTypes := #[.int, .int, (.object "java/lang/Class"), (.array .char), (.array .byte), (.array .byte), .int, .int, .long]
  resolved := Array.replicate 453 none
  statics := none }

def pool10 : Array CpInfo := pool [(1, u "java/lang/Cloneable"), (0, .class_ 1), (0, u "java/lang/Object"), (0, .class_ 3)] 3

/-- java/lang/Cloneable -/
def k10 : Class := { plain "java/lang/Cloneable" (some 0) with
  accessFlags := 1537
  interfaces := #[]
  cf := some (fileOf pool10 2 #[] #[] 1537 4 #[] #[])
  fields := #[]
  methods := #[]
  instanceTypes := #[]
  staticTypes := #[]
  resolved := Array.replicate 8 none
  statics := none }

/-- the primitive boolean -/
def k11 : Class := { plain "boolean" none with kind := .primitive 'Z', accessFlags := 0x411 }
/-- [Z -/
def k12 : Class := { plain "[Z" (some 0) with kind := .array 11 .boolean, interfaces := #[10, 4], accessFlags := 1041 }

/-- the primitive byte -/
def k13 : Class := { plain "byte" none with kind := .primitive 'B', accessFlags := 0x411 }
/-- [B -/
def k14 : Class := { plain "[B" (some 0) with kind := .array 13 .byte, interfaces := #[10, 4], accessFlags := 1041 }

/-- the primitive int -/
def k15 : Class := { plain "int" none with kind := .primitive 'I', accessFlags := 0x411 }
/-- [I -/
def k16 : Class := { plain "[I" (some 0) with kind := .array 15 .int, interfaces := #[10, 4], accessFlags := 1041 }
/-- [[I -/
def k17 : Class := { plain "[[I" (some 0) with kind := .array 16 (.array .int), interfaces := #[10, 4], accessFlags := 1041 }

def heap : Heap := #[]
def classes : Array Class := #[k0, k1, k2, k3, k4, k5, k6, k7, k8, k9, k10, k11, k12, k13, k14, k15, k16, k17]
def interned : List (Array UInt16 × Addr) := []
def slotsUsed : Nat := 0
def theMethod : MethodId := ⟨1, 1⟩
def args0 : Array Value := #[.int 5, .int 6, .int 7, .int 8, .int 9, .int 10]
def aboutOver (below : List Frame) : State where
  vm := { classes := classes, interned := interned.toArray }
  heap := heap
  slotsUsed := slotsUsed
  threads := #[{ frames := .invoking theMethod args0 :: below }]
def below0 : List Frame := [.native { method := ⟨0, 0⟩, args := #[] }]
def about1 : State := aboutOver below0
def p0 : Program := .bare "" "" ""
def e0 : Env := launch0.env 0 0 0
theorem w_frames : about1.frames = Frame.invoking theMethod args0 :: below0 := rfl
set_option maxRecDepth 65536 in
theorem w_args : argsFit about1.vm theMethod args0 = true := by decide +kernel
set_option maxRecDepth 65536 in
theorem w_heap : heapFits about1 = true := by decide +kernel
set_option maxRecDepth 65536 in
theorem w_runnable : about1.curStatus? = some .runnable := by decide +kernel
set_option maxRecDepth 65536 in
theorem w_alone : about1.alone = true := by decide +kernel
set_option maxRecDepth 65536 in
theorem w_named : about1.methodNamed? x = some theMethod := by decide +kernel
set_option maxRecDepth 65536 in
theorem w_hears : about1.hears theMethod below0 = true := by decide +kernel
set_option maxRecDepth 65536 in
theorem w_ripe : about1.ripe theMethod args0 below0 = true := by decide +kernel
theorem w_running : about1.status = .running := rfl
set_option maxRecDepth 65536 in
theorem w_room : about1.hasRoom e0.platform room_1 = true :=
  launch0.hasRoom_least _ room_1 (by decide +kernel) (by decide +kernel) (by decide +kernel) (by decide +kernel) (by decide +kernel) (by decide +kernel)
theorem allAtoms_all (ts : List Jvm.Cond) (a : Array Jvm.Value) (st : Jvm.State) : (allAtoms ts).before a st = ts.all (fun c => c.before a st) := by
  induction ts with
  | nil => rfl
  | cons c t ih =>
    show (Jvm.Cond.and c (allAtoms t)).before a st = _
    rw [Jvm.Cond.before_and, ih, List.all_cons]
def words1 : List Jvm.Cond := Jvm.Cond.code x code maxLocals ret :: tables_1
/-- a 'code' word, met by the world's own term for the bytes: nothing is compared byte by byte -/
theorem code_word {y : MethodName} {bytes : ByteArray} {mx : Nat} {rt : Option FieldType} {a : Array Value} {s : State} {m : MethodId} {meth : Method} {c : Code} (h1 : s.methodNamed? y = some m) (h2 : s.vm.method? m = some meth) (h3 : meth.code = some c) (h4 : c.code = bytes)
    (h5 : (c.maxLocals == mx && c.exceptionTable.isEmpty && decide (c.maxStack ≤ mostOperands) && decide (meth.sig.returnType = rt) && !meth.locks && decide (parseMethodDescriptor y.desc = some meth.sig)) = true) : (Jvm.Cond.code y bytes mx rt).before a s = true := by
  simp only [Bool.and_eq_true, beq_iff_eq, Bool.not_eq_true', decide_eq_true_eq] at h5
  obtain ⟨⟨⟨⟨⟨g1, g2⟩, g3⟩, g4⟩, g5⟩, g6⟩ := h5
  simp [Cond.before, Cond.holds, Cond.value, h1, h2, h3, h4, g1, g2, g3, g4, g5, g6]
def isCode : Jvm.Cond → Bool
  | .code _ _ _ _ => true
  | _ => false
theorem all_split {L : List Jvm.Cond} {P : Jvm.Cond → Bool} (h1 : L.all (fun c => isCode c || P c) = true) (h2 : ∀ c ∈ L.filter isCode, P c = true) : L.all P = true := by
  refine List.all_eq_true.mpr fun c hc => ?_
  have h := List.all_eq_true.mp h1 c hc
  rcases Bool.eq_false_or_eq_true (isCode c) with hi | hi
  · exact h2 c (List.mem_filter.mpr ⟨hc, hi⟩)
  · simpa [hi] using h
set_option maxRecDepth 65536 in
theorem w_c0 : (Jvm.Cond.code x code maxLocals ret).before args0 about1 = true := code_word (m := ⟨1, 1⟩) (meth := k1m1) (c := k1c1) (by decide +kernel) rfl rfl rfl (by decide +kernel)
set_option maxRecDepth 65536 in
theorem w_c1 : (Jvm.Cond.code ({ cls := "com/example/quadrille/quadrille/store/SortedTriples", name := "<init>", desc := "()V" } : Jvm.MethodName) prog_155_method_1_code (1 : Nat) (Option.none : Option Jvm.ClassFile.FieldType)).before args0 about1 = true := code_word (m := ⟨2, 0⟩) (meth := k2m0) (c := k2c0) (by decide +kernel) rfl rfl rfl (by decide +kernel)
set_option maxRecDepth 65536 in
theorem w_c2 : (Jvm.Cond.code ({ cls := "java/lang/Object", name := "<init>", desc := "()V" } : Jvm.MethodName) object_method_1_code (1 : Nat) (Option.none : Option Jvm.ClassFile.FieldType)).before args0 about1 = true := code_word (m := ⟨0, 0⟩) (meth := k0m0) (c := k0c0) (by decide +kernel) rfl rfl rfl (by decide +kernel)
set_option maxRecDepth 65536 in
theorem w_c3 : (Jvm.Cond.code ({ cls := "com/example/quadrille/quadrille/store/SortedTriples", name := "add", desc := "(III)Z" } : Jvm.MethodName) prog_155_method_6_code (8 : Nat) (Option.some Jvm.ClassFile.FieldType.boolean)).before args0 about1 = true := code_word (m := ⟨2, 5⟩) (meth := k2m5) (c := k2c5) (by decide +kernel) rfl rfl rfl (by decide +kernel)
set_option maxRecDepth 65536 in
theorem w_c4 : (Jvm.Cond.code ({ cls := "com/example/quadrille/quadrille/store/SortedTriples", name := "unshare", desc := "()V" } : Jvm.MethodName) prog_155_method_14_code (1 : Nat) (Option.none : Option Jvm.ClassFile.FieldType)).before args0 about1 = true := code_word (m := ⟨2, 10⟩) (meth := k2m10) (c := k2c10) (by decide +kernel) rfl rfl rfl (by decide +kernel)
set_option maxRecDepth 65536 in
theorem w_c5 : (Jvm.Cond.code ({ cls := "com/example/quadrille/quadrille/store/SortedTriples", name := "insertBlock", desc := "(I[I)V" } : Jvm.MethodName) prog_155_method_17_code (3 : Nat) (Option.none : Option Jvm.ClassFile.FieldType)).before args0 about1 = true := code_word (m := ⟨2, 12⟩) (meth := k2m12) (c := k2c12) (by decide +kernel) rfl rfl rfl (by decide +kernel)
set_option maxRecDepth 65536 in
theorem w_c6 : (Jvm.Cond.code ({ cls := "com/example/quadrille/quadrille/store/SortedTriples", name := "blockFor", desc := "(III)I" } : Jvm.MethodName) prog_155_method_10_code (7 : Nat) (Option.some Jvm.ClassFile.FieldType.int)).before args0 about1 = true := code_word (m := ⟨2, 7⟩) (meth := k2m7) (c := k2c7) (by decide +kernel) rfl rfl rfl (by decide +kernel)
set_option maxRecDepth 65536 in
theorem w_c7 : (Jvm.Cond.code ({ cls := "com/example/quadrille/quadrille/store/SortedTriples", name := "search", desc := "([IIIII)I" } : Jvm.MethodName) prog_155_method_11_code (9 : Nat) (Option.some Jvm.ClassFile.FieldType.int)).before args0 about1 = true := code_word (m := ⟨2, 8⟩) (meth := k2m8) (c := k2c8) (by decide +kernel) rfl rfl rfl (by decide +kernel)
set_option maxRecDepth 65536 in
theorem w_c8 : (Jvm.Cond.code ({ cls := "com/example/quadrille/quadrille/store/SortedTriples", name := "writable", desc := "(I)[I" } : Jvm.MethodName) prog_155_method_15_code (2 : Nat) (Option.some (Jvm.ClassFile.FieldType.array Jvm.ClassFile.FieldType.int))).before args0 about1 = true := code_word (m := ⟨2, 11⟩) (meth := k2m11) (c := k2c11) (by decide +kernel) rfl rfl rfl (by decide +kernel)
set_option maxRecDepth 65536 in
theorem w_c9 : (Jvm.Cond.code ({ cls := "com/example/quadrille/quadrille/store/SortedTriples", name := "comparePrefix", desc := "([IIIIII)I" } : Jvm.MethodName) prog_155_method_13_code (7 : Nat) (Option.some Jvm.ClassFile.FieldType.int)).before args0 about1 = true := code_word (m := ⟨2, 9⟩) (meth := k2m9) (c := k2c9) (by decide +kernel) rfl rfl rfl (by decide +kernel)
set_option maxRecDepth 65536 in
theorem w_c10 : (Jvm.Cond.code ({ cls := "java/lang/Integer", name := "compare", desc := "(II)I" } : Jvm.MethodName) jdk_33_method_40_code (2 : Nat) (Option.some Jvm.ClassFile.FieldType.int)).before args0 about1 = true := code_word (m := ⟨9, 0⟩) (meth := k9m0) (c := k9c0) (by decide +kernel) rfl rfl rfl (by decide +kernel)
set_option maxRecDepth 65536 in
theorem w_c11 : (Jvm.Cond.code ({ cls := "com/example/quadrille/quadrille/store/SortedTriples", name := "copy", desc := "()Lcom/example/quadrille/quadrille/store/SortedTriples;" } : Jvm.MethodName) prog_155_method_3_code (1 : Nat) (Option.some (Jvm.ClassFile.FieldType.object "com/example/quadrille/quadrille/store/SortedTriples"))).before args0 about1 = true := code_word (m := ⟨2, 2⟩) (meth := k2m2) (c := k2c2) (by decide +kernel) rfl rfl rfl (by decide +kernel)
set_option maxRecDepth 65536 in
theorem w_c12 : (Jvm.Cond.code ({ cls := "com/example/quadrille/quadrille/store/SortedTriples", name := "<init>", desc := "([[I[IIJ)V" } : Jvm.MethodName) prog_155_method_2_code (6 : Nat) (Option.none : Option Jvm.ClassFile.FieldType)).before args0 about1 = true := code_word (m := ⟨2, 1⟩) (meth := k2m1) (c := k2c1) (by decide +kernel) rfl rfl rfl (by decide +kernel)
set_option maxRecDepth 65536 in
theorem w_c13 : (Jvm.Cond.code ({ cls := "com/example/quadrille/quadrille/store/SortedTriples", name := "clear", desc := "()V" } : Jvm.MethodName) prog_155_method_8_code (1 : Nat) (Option.none : Option Jvm.ClassFile.FieldType)).before args0 about1 = true := code_word (m := ⟨2, 6⟩) (meth := k2m6) (c := k2c6) (by decide +kernel) rfl rfl rfl (by decide +kernel)
set_option maxRecDepth 65536 in
theorem w_c14 : (Jvm.Cond.code ({ cls := "com/example/quadrille/quadrille/store/SortedTriples", name := "size", desc := "()J" } : Jvm.MethodName) prog_155_method_4_code (1 : Nat) (Option.some Jvm.ClassFile.FieldType.long)).before args0 about1 = true := code_word (m := ⟨2, 3⟩) (meth := k2m3) (c := k2c3) (by decide +kernel) rfl rfl rfl (by decide +kernel)
set_option maxRecDepth 65536 in
theorem w_c15 : (Jvm.Cond.code ({ cls := "com/example/quadrille/quadrille/store/SortedTriples", name := "contains", desc := "(III)Z" } : Jvm.MethodName) prog_155_method_5_code (5 : Nat) (Option.some Jvm.ClassFile.FieldType.boolean)).before args0 about1 = true := code_word (m := ⟨2, 4⟩) (meth := k2m4) (c := k2c4) (by decide +kernel) rfl rfl rfl (by decide +kernel)
def codes1 : List Jvm.Cond := [Jvm.Cond.code x code maxLocals ret, Jvm.Cond.code ({ cls := "com/example/quadrille/quadrille/store/SortedTriples", name := "<init>", desc := "()V" } : Jvm.MethodName) prog_155_method_1_code (1 : Nat) (Option.none : Option Jvm.ClassFile.FieldType), Jvm.Cond.code ({ cls := "java/lang/Object", name := "<init>", desc := "()V" } : Jvm.MethodName) object_method_1_code (1 : Nat) (Option.none : Option Jvm.ClassFile.FieldType), Jvm.Cond.code ({ cls := "com/example/quadrille/quadrille/store/SortedTriples", name := "add", desc := "(III)Z" } : Jvm.MethodName) prog_155_method_6_code (8 : Nat) (Option.some Jvm.ClassFile.FieldType.boolean), Jvm.Cond.code ({ cls := "com/example/quadrille/quadrille/store/SortedTriples", name := "unshare", desc := "()V" } : Jvm.MethodName) prog_155_method_14_code (1 : Nat) (Option.none : Option Jvm.ClassFile.FieldType), Jvm.Cond.code ({ cls := "com/example/quadrille/quadrille/store/SortedTriples", name := "insertBlock", desc := "(I[I)V" } : Jvm.MethodName) prog_155_method_17_code (3 : Nat) (Option.none : Option Jvm.ClassFile.FieldType), Jvm.Cond.code ({ cls := "com/example/quadrille/quadrille/store/SortedTriples", name := "blockFor", desc := "(III)I" } : Jvm.MethodName) prog_155_method_10_code (7 : Nat) (Option.some Jvm.ClassFile.FieldType.int), Jvm.Cond.code ({ cls := "com/example/quadrille/quadrille/store/SortedTriples", name := "search", desc := "([IIIII)I" } : Jvm.MethodName) prog_155_method_11_code (9 : Nat) (Option.some Jvm.ClassFile.FieldType.int), Jvm.Cond.code ({ cls := "com/example/quadrille/quadrille/store/SortedTriples", name := "writable", desc := "(I)[I" } : Jvm.MethodName) prog_155_method_15_code (2 : Nat) (Option.some (Jvm.ClassFile.FieldType.array Jvm.ClassFile.FieldType.int)), Jvm.Cond.code ({ cls := "com/example/quadrille/quadrille/store/SortedTriples", name := "comparePrefix", desc := "([IIIIII)I" } : Jvm.MethodName) prog_155_method_13_code (7 : Nat) (Option.some Jvm.ClassFile.FieldType.int), Jvm.Cond.code ({ cls := "java/lang/Integer", name := "compare", desc := "(II)I" } : Jvm.MethodName) jdk_33_method_40_code (2 : Nat) (Option.some Jvm.ClassFile.FieldType.int), Jvm.Cond.code ({ cls := "com/example/quadrille/quadrille/store/SortedTriples", name := "copy", desc := "()Lcom/example/quadrille/quadrille/store/SortedTriples;" } : Jvm.MethodName) prog_155_method_3_code (1 : Nat) (Option.some (Jvm.ClassFile.FieldType.object "com/example/quadrille/quadrille/store/SortedTriples")), Jvm.Cond.code ({ cls := "com/example/quadrille/quadrille/store/SortedTriples", name := "<init>", desc := "([[I[IIJ)V" } : Jvm.MethodName) prog_155_method_2_code (6 : Nat) (Option.none : Option Jvm.ClassFile.FieldType), Jvm.Cond.code ({ cls := "com/example/quadrille/quadrille/store/SortedTriples", name := "clear", desc := "()V" } : Jvm.MethodName) prog_155_method_8_code (1 : Nat) (Option.none : Option Jvm.ClassFile.FieldType), Jvm.Cond.code ({ cls := "com/example/quadrille/quadrille/store/SortedTriples", name := "size", desc := "()J" } : Jvm.MethodName) prog_155_method_4_code (1 : Nat) (Option.some Jvm.ClassFile.FieldType.long), Jvm.Cond.code ({ cls := "com/example/quadrille/quadrille/store/SortedTriples", name := "contains", desc := "(III)Z" } : Jvm.MethodName) prog_155_method_5_code (5 : Nat) (Option.some Jvm.ClassFile.FieldType.boolean)]
set_option maxRecDepth 65536 in
theorem codes_eq : words1.filter isCode = codes1 := rfl
theorem w_codes : ∀ c ∈ words1.filter isCode, c.before args0 about1 = true := by
  rw [codes_eq]
  intro c hc
  simp only [codes1, List.mem_cons, List.not_mem_nil, or_false] at hc
  rcases hc with rfl | rfl | rfl | rfl | rfl | rfl | rfl | rfl | rfl | rfl | rfl | rfl | rfl | rfl | rfl | rfl
  · exact w_c0
  · exact w_c1
  · exact w_c2
  · exact w_c3
  · exact w_c4
  · exact w_c5
  · exact w_c6
  · exact w_c7
  · exact w_c8
  · exact w_c9
  · exact w_c10
  · exact w_c11
  · exact w_c12
  · exact w_c13
  · exact w_c14
  · exact w_c15
set_option maxRecDepth 65536 in
theorem w_t1 : (words1.take 24).all (fun c => isCode c || c.before args0 about1) = true := by decide +kernel
set_option maxRecDepth 65536 in
theorem w_t2 : ((words1.drop 24).take 24).all (fun c => isCode c || c.before args0 about1) = true := by decide +kernel
set_option maxRecDepth 65536 in
theorem w_t3 : (((words1.drop 24).drop 24).take 24).all (fun c => isCode c || c.before args0 about1) = true := by decide +kernel
set_option maxRecDepth 65536 in
theorem w_t4 : (((words1.drop 24).drop 24).drop 24).all (fun c => isCode c || c.before args0 about1) = true := by decide +kernel
theorem w_tables : (allAtoms (Jvm.Cond.code x code maxLocals ret :: tables_1)).before args0 about1 = true := by
  rw [allAtoms_all]
  show words1.all (fun c => c.before args0 about1) = true
  refine all_split ?_ w_codes
  rw [← List.take_append_drop 24 words1, List.all_append, w_t1, ← List.take_append_drop 24 (words1.drop 24), List.all_append, w_t2, ← List.take_append_drop 24 ((words1.drop 24).drop 24), List.all_append, w_t3, w_t4]
  rfl
set_option maxRecDepth 65536 in
theorem w_case : (Jvm.Cond.and given_1 narrow_1).before args0 about1 = true := by decide +kernel
theorem w_applies : (headSpec (Jvm.Cond.code x code maxLocals ret :: tables_1) room_1).applies x e0.platform about1 = true :=
  (Spec.applies_iff w_frames).mpr ⟨w_running, w_runnable, w_alone, w_named, w_hears, w_ripe, w_room, w_tables⟩
theorem atStart : AtStart classFile x code maxLocals ret World_1 tables_1 room_1 Calls_1 rest_1 Pre_1 launch0 p0 e0 about1 theMethod args0 below0 :=
  ⟨lists_1, trivial, launch0.admits_env _ _ _, launch0.least_env, fairChoices_fair.cas, fairChoices_fair.clock, w_frames, w_args, w_heap, w_applies, trivial, trivial, w_case⟩
end start1
theorem witness_1 : WitnessClaimed_1 := ⟨start1.p0, start1.e0, start1.about1, start1.theMethod, start1.args0, start1.below0, start1.atStart⟩
end Jvm.Pilot.@@N@@
