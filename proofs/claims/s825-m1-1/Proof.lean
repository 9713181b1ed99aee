import JvmDerived
import JvmDerived.Pilot.@@N@@Statement
import JvmDerived.Pilot.@@N@@Code
set_option linter.unusedVariables false
set_option linter.unusedSimpArgs false
namespace Jvm.Pilot.@@N@@
open Jvm Jvm.ClassFile Sem Op Lib Jvm.Free Jvm.Stand Jvm.LawKit Jvm.RoadKit Bundle Jvm.Pilot.@@N@@.Jvm.D
abbrev St (p : Program) (e : Env) (below : List Frame) (T : State) (g : JFrame) (t : State) : Prop := Steps p.tables e below (T.setTop g) t
theorem ww {Z : State} {a0 : Array Value} (hw : ∀ d ∈ tables_1, d.before a0 Z = true) {d : Jvm.Cond} (i : Nat) (h : tables_1[i]? = some d) : d.before a0 Z = true := hw _ (List.mem_of_getElem? h)
theorem ltI {a b : Int32} (h : a < b) : a.toInt < b.toInt := Int32.lt_iff_toInt_lt.mp h
theorem nltI {a b : Int32} (h : ¬ a < b) : ¬ a.toInt < b.toInt := mt Int32.lt_iff_toInt_lt.mpr h
theorem eqI {a b : Int32} (h : a = b) : a.toInt = b.toInt := congrArg Int32.toInt h
theorem neI {a b : Int32} (h : ¬ a = b) : ¬ a.toInt = b.toInt := mt Int32.toInt_inj.mp h
theorem ltJ {a b : Int64} (h : a < b) : a.toInt < b.toInt := Int64.lt_iff_toInt_lt.mp h
theorem nltJ {a b : Int64} (h : ¬ a < b) : ¬ a.toInt < b.toInt := mt Int64.lt_iff_toInt_lt.mpr h
theorem eqJ {a b : Int64} (h : a = b) : a.toInt = b.toInt := congrArg Int64.toInt h
theorem neJ {a b : Int64} (h : ¬ a = b) : ¬ a.toInt = b.toInt := mt Int64.toInt_inj.mp h
theorem own_eqI {args : Array Value} {s : State} {t : Term} {k : Int32} (h : (Jvm.Cond.eq t (.int k)).value args s none s [] = some true) : t.eval args s none [] s = some (.int k) := by
  obtain ⟨x, y, ex, ey, k1, k2⟩ := cmp_v (Or.inl h)
  obtain rfl : y = .int k := Option.some.inj (ey.symm.trans (Term.int_eval k))
  obtain ⟨z, rfl⟩ := k2
  rw [ex, gotT (Cond.eq_ints ex ey) h]
theorem own_eqJ {args : Array Value} {s : State} {t : Term} {k : Int64} (h : (Jvm.Cond.eq t (.long k)).value args s none s [] = some true) : t.eval args s none [] s = some (.long k) := by
  obtain ⟨x, y, ex, ey, k1, k2⟩ := cmp_v (Or.inl h)
  obtain rfl : y = .long k := Option.some.inj (ey.symm.trans (long_at k))
  obtain ⟨z, rfl⟩ := k2
  rw [ex, gotT (eq_L ex ey) h]
theorem own_eqR {args : Array Value} {s : State} {t u : Term} {b : Addr} (h : (Jvm.Cond.eq t u).value args s none s [] = some true) (hu : u.eval args s none [] s = some (.ref b)) : t.eval args s none [] s = some (.ref b) := by
  obtain ⟨x, y, ex, ey, k1, k2⟩ := cmp_v (Or.inl h)
  obtain rfl : y = .ref b := Option.some.inj (ey.symm.trans hu)
  have hx : x.isRef = true := k2.2
  rw [ex, gotT (eq_R ex ey hx rfl) h]
theorem own_len {args : Array Value} {s : State} {t : Term} {a : Addr} {cl : Cell} {ty : FieldType} {k : Int32} (ev : t.eval args s none [] s = some (.ref a)) (A : Arr s s.heap a cl ty) (h : (Term.length t).eval args s none [] s = some (.int k)) : cl.slots.size < 2 ^ 31 ∧ cl.slots.size.toInt32 = k := by
  have ha := A.fin (Vm.Alike.refl _)
  by_cases hl : cl.slots.size < 2 ^ 31
  · exact ⟨hl, Value.int.inj (Option.some.inj ((len_f ev ha hl).symm.trans h))⟩
  · exfalso; simp [Term.eval, ev, ha, hl] at h
theorem own_sel {Z : State} {a0 : Array Value} {y : MethodName} {n : Nat} (wi : (Jvm.Cond.instantiable y.cls n).before a0 Z = true) (wp : (Jvm.Cond.privateMethod y).before a0 Z = true) (wm : (Jvm.Cond.instanceMethod y).before a0 Z = true) (hy : y.cls ≠ "java/lang/invoke/MethodHandle" ∧ y.cls ≠ "java/lang/invoke/VarHandle") : (Jvm.Cond.selects y.cls y y).before a0 Z = true := by
  obtain ⟨c, k, h1, h2, h3, h4, -⟩ := Cond.instantiable_spec wi
  exact selects_self_of_private h1 h2 (by simp only [Bool.or_eq_false_iff] at h4; exact h4.1) (Cond.privateMethod_at wp) wm hy
def own_nz (x : Int64) : Int32 := if x = 0 then 0 else 1
theorem own_c_nz (x : Int64) : (x.toInt = 0 → (own_nz x).toInt = 0) ∧ (x.toInt ≠ 0 → (own_nz x).toInt = 1) := by
  unfold own_nz
  by_cases h : x = 0
  · subst h; exact ⟨fun _ => by decide, fun q => absurd (by decide) q⟩
  · rw [if_neg h]; exact ⟨fun q => absurd (Int64.toInt_inj.mp (q.trans (by decide : (0 : Int) = (0 : Int64).toInt))) h, fun _ => by decide⟩
theorem own_old_le {Z : State} {n0 : Nat} {h : Heap} (O : Old Z n0 h) : n0 ≤ h.size := O.1 ▸ O.2.1
abbrev M0 : MethodName := ⟨"dev/ambrotype/SizeEqualsPinLaw", "side", "(I)I"⟩
abbrev M1 : MethodName := ⟨"java/lang/Record", "<init>", "()V"⟩
abbrev M2 : MethodName := ⟨"dev/ambrotype/Size", "<init>", "(II)V"⟩
abbrev M3 : MethodName := ⟨"java/lang/Number", "<init>", "()V"⟩
abbrev M4 : MethodName := ⟨"java/lang/Integer", "<init>", "(I)V"⟩
abbrev M5 : MethodName := ⟨"java/lang/Integer", "valueOf", "(I)Ljava/lang/Integer;"⟩
abbrev M6 : MethodName := ⟨"dev/ambrotype/Size", "equals", "(Ljava/lang/Object;)Z"⟩
theorem lI2147483647 : (2147483647 : Int32).toInt = 2147483647 := by decide
theorem lI0 : (0 : Int32).toInt = 0 := by decide
theorem lI1 : (1 : Int32).toInt = 1 := by decide
theorem lIm128 : (-128 : Int32).toInt = -128 := by decide
theorem lI127 : (127 : Int32).toInt = 127 := by decide
theorem lI128 : (128 : Int32).toInt = 128 := by decide
theorem lI256 : (256 : Int32).toInt = 256 := by decide
theorem own_ns_root {Z : State} {a0 : Array Value} {O K : String} {n : Nat} (w : (Jvm.Cond.noSuperclass O).before a0 Z = true) (wk : (Jvm.Cond.instantiable K n).before a0 Z = true) (hn : O ≠ K) : NS Z O K := by
  obtain ⟨t, kt, g1, -⟩ := Cond.instantiable_spec wk
  obtain ⟨c, k, h1, h2, h3, -⟩ := Cond.noSuperclass_spec w
  exact ⟨c, t, h1, g1, fun fuel => by cases fuel <;> simp [Vm.isSubclassAux, ids_ne h1 g1 hn, h2, h3]⟩
theorem own_ns_no {Z : State} {a0 : Array Value} {C S K : String} {n : Nat} (w : (Jvm.Cond.superclass C S).before a0 Z = true) (wk : (Jvm.Cond.instantiable K n).before a0 Z = true) (ns : NS Z C K) (hn : C ≠ K) : ∃ c t, Z.vm.findClass C = some c ∧ Z.vm.findClass K = some t ∧ Z.vm.assignable c t = false := by
  obtain ⟨c, t, h0, g0, n3⟩ := ns
  obtain ⟨t', kt, g1, g2, g3, g4, -⟩ := Cond.instantiable_spec wk
  cases g0.symm.trans g1
  obtain ⟨q, k, kq, h1, h2, h3, h4, h5, -⟩ := Cond.superclass_spec h0 w
  have hi : kt.isInterface = false := by simp only [Bool.or_eq_false_iff] at g4; exact g4.1
  refine ⟨c, t, h0, g0, ?_⟩
  show Z.vm.assignableAux (255 + 1) c t = false
  simp [Vm.assignableAux, ids_ne h0 g0 hn, h2, g2, h5, g3, hi, Vm.isSubclass, n3]
def Env1 (Z : State) (a_cache : Addr) (clC : Cell) : Prop := Sta Z Z.heap "java/lang/Integer$IntegerCache" "high" "I" (.int (127 : Int32)) ∧
  Sta Z Z.heap "java/lang/Integer$IntegerCache" "cache" "[Ljava/lang/Integer;" (.ref a_cache) ∧
  Arr Z Z.heap a_cache clC (.object "java/lang/Integer") ∧
  clC.slots.size = (256 : Int32).toNatClampNeg ∧
  ∀ j : Int32, ¬ (j < (0 : Int32)) → j < (256 : Int32) → ∃ b : Addr, clC.slots[j.toNatClampNeg]? = some (.ref b) ∧ Exa Z Z.heap b "java/lang/Integer"
theorem ef0 (m : MethodId) (x0 : Int32) (x1 : Int32) (x2 : Int32) (x3 : Int32) (x4 : Int32) : entryFrame m #[(.int x0), (.int x1), (.int x2), (.int x3), (.int x4)] maxLocals = mkF m 0 #[.val (.int x0), .val (.int x1), .val (.int x2), .val (.int x3), .val (.int x4), .unset, .unset, .unset, .unset, .unset, .unset, .unset, .unset, .unset, .unset, .unset] [] := by first | (simp [entryFrame, mkF, argsToLocals, Value.category, maxLocals]; done) | rfl
theorem pn0 : plainName "dev/ambrotype/SizeEqualsPinLaw" = true := by first | (simp [plainName, overriddenIn]; done) | decide +kernel
theorem ef1 (m : MethodId) (x0 : Int32) : entryFrame m #[(.int x0)] 2 = mkF m 0 #[.val (.int x0), .unset] [] := by first | (simp [entryFrame, mkF, argsToLocals, Value.category]; done) | rfl
theorem d1_0 : decode method_2_code 0 = .ok (.iload_n 0, 1) := by decide +kernel
theorem d1_1 : decode method_2_code 1 = .ok (.ldc 7, 2) := by decide +kernel
theorem d1_3 : decode method_2_code 3 = .ok (.iand, 1) := by decide +kernel
theorem d1_4 : decode method_2_code 4 = .ok (.istore_n 1, 1) := by decide +kernel
theorem d1_5 : decode method_2_code 5 = .ok (.iload_n 1, 1) := by decide +kernel
theorem d1_6 : decode method_2_code 6 = .ok (.ifCond .ne 7, 3) := by decide +kernel
theorem d1_9 : decode method_2_code 9 = .ok (.iconst 1, 1) := by decide +kernel
theorem d1_10 : decode method_2_code 10 = .ok (.goto 4, 3) := by decide +kernel
theorem d1_14 : decode method_2_code 14 = .ok (.ireturn, 1) := by decide +kernel
theorem d1_13 : decode method_2_code 13 = .ok (.iload_n 1, 1) := by decide +kernel
def Q1_0 (Z : State) (a_cache : Addr) (clC : Cell) (i0 : Int32) (h0 : Heap) (n0 : Nat) (v : Option Value) (h : Heap) (L : List Loc) : Prop := Fr n0 L ∧ h = h0 ∧ ((v = some (.int (1 : Int32)) ∧ (i0 &&& (2147483647 : Int32)) = (0 : Int32)) ∨ (v = some (.int (i0 &&& (2147483647 : Int32))) ∧ ¬ ((i0 &&& (2147483647 : Int32)) = (0 : Int32))))
set_option maxRecDepth 65536 in
set_option maxHeartbeats 40000000 in
theorem rm1_0 (l : Launch) (Z : State) (a0 : Array Value) (hw : ∀ d ∈ tables_1, d.before a0 Z = true) (ws : List Jvm.Cond) (a_cache : Addr) (clC : Cell) (i0 : Int32) (h0 : Heap) (n0 : Nat) (O0 : Old Z n0 h0) (HE : Env1 Z a_cache clC)  :
    MetFree l M0 (head1 (Jvm.Cond.code M0 method_2_code 2 (some .int) :: ws) ({ frames := 0, cells := 0, slots := 0, locals := 0 } : Room)) (fun a U => a = #[(.int i0)] ∧ Z.Warmed39 U.vm ∧ U.heap = h0) (fun _ _ _ _ _ => True) (fun _ U o U' => ∃ v L, o = .returned v ∧ Q1_0 Z a_cache clC i0 h0 n0 v U'.heap L ∧ FrameEnd U o U' L ({ frames := 0, cells := 0, slots := 0, locals := 0 } : Room).cells ({ frames := 0, cells := 0, slots := 0, locals := 0 } : Room).slots) := by
 refine MetFree.of_bodySF (plainFor_of_name pn0) hisR ?_
 intro p e s m args below meth c s₁ Bd hml0 hP hK
 obtain ⟨rfl, hZ, hh⟩ := hP
 have hx := Bd.exec
 have hby := Bd.bytes
 have hml : c.maxLocals = 2 := hml0
 have hown : s.vm.findClass "dev/ambrotype/SizeEqualsPinLaw" = some m.cls := findClass_of_methodNamed Bd.named
 have hnm := (name_of_methodNamed Bd.named Bd.method).1
 have X0 : Stand p l e ({ frames := 0, cells := 0, slots := 0, locals := 0 } : Room) s m #[(.int i0)] below meth c s₁ [] 0 0 := Stand.of_body Bd
 have e0 : s₁.heap = h0 := by rw [← hh, Bd.state]; rfl
 have N0 := Fr.nil n0
 let S0 : State → Prop := fun t => Steps p.tables e below (s₁.setTop (entryFrame m #[(.int i0)] 2)) t
 have p0 : ∀ t, St p e below s₁ (mkF m 0 #[.val (.int i0), .unset] []) t → S0 t := fun t k => castTop (ef1 m i0) k
 have HE' := HE
 obtain ⟨Shigh, Scache, RC, ZC, TC⟩ := HE
 let Ls1 : Array Slot := #[.val (.int i0), .val (.int (i0 &&& (2147483647 : Int32)))]
 have p2 : ∀ t, St p e below s₁ (mkF m 6 Ls1 [(.int (i0 &&& (2147483647 : Int32)))]) t → S0 t := fun t k => p0 t (by
   show St p e below s₁ (mkF m 0 #[.val (.int i0), .unset] []) t
   refine XS.iloadN X0.here hx rfl (hb hby d1_0) rfl ?_
   show St p e below s₁ (mkF m 1 #[.val (.int i0), .unset] [(.int i0)]) t
   refine X0.ldcI hx hown (mvT hZ (ww hw 4 rfl)) rfl (hb hby d1_1) ?_
   show St p e below s₁ (mkF m 3 #[.val (.int i0), .unset] [(.int (2147483647 : Int32)), (.int i0)]) t
   refine XS.iand X0.here hx rfl (hb hby d1_3) rfl ?_
   show St p e below s₁ (mkF m 4 #[.val (.int i0), .unset] [(.int (i0 &&& (2147483647 : Int32)))]) t
   refine XS.istoreN X0.here hx rfl (hb hby d1_4) rfl (l' := Ls1) rfl ?_
   show St p e below s₁ (mkF m 5 Ls1 []) t
   refine XS.iloadN X0.here hx rfl (hb hby d1_5) rfl ?_
   exact k)
 by_cases g3 : (i0 &&& (2147483647 : Int32)) = (0 : Int32)
 ·
  have p4 : ∀ t, St p e below s₁ (mkF m 14 Ls1 [(.int (1 : Int32))]) t → S0 t := fun t k => p2 t (by
    show St p e below s₁ (mkF m 6 Ls1 [(.int (i0 &&& (2147483647 : Int32)))]) t
    refine XS.ifNo X0.here hx rfl (hb hby d1_6) rfl ((if0 _ _).trans (teq g3).2) ?_
    show St p e below s₁ (mkF m 9 Ls1 []) t
    refine XT.iconstV X0.here hx rfl (1 : Int32) (hb hby d1_9) (by decide) ?_
    show St p e below s₁ (mkF m 10 Ls1 [(.int (1 : Int32))]) t
    refine XS.goto X0.here hx rfl (pc0 := 10) (pc' := 14) rfl (hb hby d1_10) (by decide) (by decide) ?_
    exact k)
  obtain ⟨fs, hr, hrun, hended, hW, hsame⟩ := X0.leave (v := some (.int (1 : Int32))) (fun h => by rw [Bd.returns] at h; cases h)
  refine ⟨_, _, p4 _ ?_, hrun, hended, _, _, rfl, ?_, ⟨_, rfl⟩, hW, hsame.mono (by decide) (by decide)⟩
  · exact retOut X0 hx Bd.returns rfl (Or.inl ⟨rfl, by simp, _, rfl⟩) (hb hby d1_14) hr
  · show Q1_0 Z a_cache clC i0 h0 n0 _ s₁.heap _
    exact ⟨N0, e0, (Or.inl ⟨rfl, g3⟩)⟩
 ·
  have p5 : ∀ t, St p e below s₁ (mkF m 14 Ls1 [(.int (i0 &&& (2147483647 : Int32)))]) t → S0 t := fun t k => p2 t (by
    show St p e below s₁ (mkF m 6 Ls1 [(.int (i0 &&& (2147483647 : Int32)))]) t
    refine XS.ifYes X0.here hx rfl (pc0 := 6) (pc' := 13) rfl (hb hby d1_6) rfl ((if0 _ _).trans (feq g3).2) (by decide) (by decide) ?_
    show St p e below s₁ (mkF m 13 Ls1 []) t
    refine XS.iloadN X0.here hx rfl (hb hby d1_13) rfl ?_
    exact k)
  obtain ⟨fs, hr, hrun, hended, hW, hsame⟩ := X0.leave (v := some (.int (i0 &&& (2147483647 : Int32)))) (fun h => by rw [Bd.returns] at h; cases h)
  refine ⟨_, _, p5 _ ?_, hrun, hended, _, _, rfl, ?_, ⟨_, rfl⟩, hW, hsame.mono (by decide) (by decide)⟩
  · exact retOut X0 hx Bd.returns rfl (Or.inl ⟨rfl, by simp, _, rfl⟩) (hb hby d1_14) hr
  · show Q1_0 Z a_cache clC i0 h0 n0 _ s₁.heap _
    exact ⟨N0, e0, (Or.inr (⟨rfl, g3⟩))⟩
theorem pd0 : parseMethodDescriptor "(I)I" = some ⟨[.int], some .int⟩ := by decide +kernel
theorem ef2 (m : MethodId) (x0 : Addr) (x1 : Int32) (x2 : Int32) : entryFrame m #[(.ref x0), (.int x1), (.int x2)] 3 = mkF m 0 #[.val (.ref x0), .val (.int x1), .val (.int x2)] [] := by first | (simp [entryFrame, mkF, argsToLocals, Value.category]; done) | rfl
theorem pn1 : plainName "dev/ambrotype/Size" = true := by first | (simp [plainName, overriddenIn]; done) | decide +kernel
theorem d2_0 : decode prog_23_method_1_code 0 = .ok (.aload_n 0, 1) := by decide +kernel
theorem ef3 (m : MethodId) (x0 : Addr) : entryFrame m #[(.ref x0)] 1 = mkF m 0 #[.val (.ref x0)] [] := by first | (simp [entryFrame, mkF, argsToLocals, Value.category]; done) | rfl
theorem pn2 : plainName "java/lang/Record" = true := by first | (simp [plainName, overriddenIn]; done) | decide +kernel
theorem d3_0 : decode jdk_30_method_1_code 0 = .ok (.aload_n 0, 1) := by decide +kernel
theorem d3_1 : decode jdk_30_method_1_code 1 = .ok (.invokespecial 1, 3) := by decide +kernel
theorem d3_4 : decode jdk_30_method_1_code 4 = .ok (.return_, 1) := by decide +kernel
def Q3_2 (Z : State) (a_cache : Addr) (clC : Cell) (b0 : Addr) (h0 : Heap) (n0 : Nat) (v : Option Value) (h : Heap) (L : List Loc) : Prop := Fr n0 L ∧ h = h0 ∧ ((v = none))
set_option maxRecDepth 65536 in
set_option maxHeartbeats 40000000 in
theorem rm3_2 (l : Launch) (Z : State) (a0 : Array Value) (hw : ∀ d ∈ tables_1, d.before a0 Z = true) (ws : List Jvm.Cond) (a_cache : Addr) (clC : Cell) (b0 : Addr) (h0 : Heap) (n0 : Nat) (O0 : Old Z n0 h0) (HE : Env1 Z a_cache clC) (g_b0 : n0 ≤ b0) (f0 : Exa Z h0 b0 "dev/ambrotype/Size") (f1 : Fld Z h0 b0 "dev/ambrotype/Size" "width" "I" (.int (0 : Int32))) (f2 : Fld Z h0 b0 "dev/ambrotype/Size" "height" "I" (.int (0 : Int32))) :
    MetFree l M1 (head1 (Jvm.Cond.code M1 jdk_30_method_1_code 1 none :: ws) ({ frames := 1, cells := 0, slots := 0, locals := 12 } : Room)) (fun a U => a = #[(.ref b0)] ∧ Z.Warmed39 U.vm ∧ U.heap = h0) (fun _ _ _ _ _ => True) (fun _ U o U' => ∃ v L, o = .returned v ∧ Q3_2 Z a_cache clC b0 h0 n0 v U'.heap L ∧ FrameEnd U o U' L ({ frames := 1, cells := 0, slots := 0, locals := 12 } : Room).cells ({ frames := 1, cells := 0, slots := 0, locals := 12 } : Room).slots) := by
 refine MetFree.of_bodySF (plainFor_of_name pn2) hisR ?_
 intro p e s m args below meth c s₁ Bd hml0 hP hK
 obtain ⟨rfl, hZ, hh⟩ := hP
 have hx := Bd.exec
 have hby := Bd.bytes
 have hml : c.maxLocals = 1 := hml0
 have hown : s.vm.findClass "java/lang/Record" = some m.cls := findClass_of_methodNamed Bd.named
 have hnm := (name_of_methodNamed Bd.named Bd.method).1
 have X0 : Stand p l e ({ frames := 1, cells := 0, slots := 0, locals := 12 } : Room) s m #[(.ref b0)] below meth c s₁ [] 0 0 := Stand.of_body Bd
 have e0 : s₁.heap = h0 := by rw [← hh, Bd.state]; rfl
 have N0 := Fr.nil n0
 let S0 : State → Prop := fun t => Steps p.tables e below (s₁.setTop (entryFrame m #[(.ref b0)] 1)) t
 have p0 : ∀ t, St p e below s₁ (mkF m 0 #[.val (.ref b0)] []) t → S0 t := fun t k => castTop (ef3 m b0) k
 have HE' := HE
 obtain ⟨Shigh, Scache, RC, ZC, TC⟩ := HE
 have p1 : ∀ t, St p e below s₁ (mkF m 1 #[.val (.ref b0)] [(.ref b0)]) t → S0 t := fun t k => p0 t (by
   show St p e below s₁ (mkF m 0 #[.val (.ref b0)] []) t
   refine XS.aloadN X0.here hx rfl (hb hby d3_0) rfl rfl ?_
   exact k)
 obtain ⟨T2, X2, e2, st2⟩ := initO X0 hx hZ hown (ww hw 16 rfl) (ww hw 17 rfl) (ww hw 18 rfl) e0 (g := (mkF m 1 #[.val (.ref b0)] [(.ref b0)])) rfl (by rw [hml]; rfl) rfl (hb hby d3_1) (by decide) (W := 0) (by show 2 * 0 + _ ≤ _; exact Nat.le_of_eq rfl) (by decide)
 have p3 : ∀ t, St p e below T2 (mkF m 4 #[.val (.ref b0)] []) t → S0 t := fun t k => p1 t (st2 t k)
 obtain ⟨fs, hr, hrun, hended, hW, hsame⟩ := X2.leave (v := none) (fun _ => rfl)
 refine ⟨_, _, p3 _ ?_, hrun, hended, _, _, rfl, ?_, ⟨_, rfl⟩, hW, hsame.mono (by decide) (by decide)⟩
 · exact X2.returnOut hx Bd.returns (hb hby d3_4) hr
 · show Q3_2 Z a_cache clC b0 h0 n0 _ T2.heap _
   exact ⟨N0, e2, rfl⟩
theorem pd1 : parseMethodDescriptor "()V" = some ⟨[], none⟩ := by decide +kernel
theorem d2_1 : decode prog_23_method_1_code 1 = .ok (.invokespecial 1, 3) := by decide +kernel
theorem d2_4 : decode prog_23_method_1_code 4 = .ok (.iload_n 1, 1) := by decide +kernel
theorem d2_5 : decode prog_23_method_1_code 5 = .ok (.iconst 1, 1) := by decide +kernel
theorem d2_6 : decode prog_23_method_1_code 6 = .ok (.if_icmp .lt 8, 3) := by decide +kernel
theorem d2_9 : decode prog_23_method_1_code 9 = .ok (.iload_n 2, 1) := by decide +kernel
theorem d2_10 : decode prog_23_method_1_code 10 = .ok (.iconst 1, 1) := by decide +kernel
theorem d2_11 : decode prog_23_method_1_code 11 = .ok (.if_icmp .ge 18, 3) := by decide +kernel
theorem d2_29 : decode prog_23_method_1_code 29 = .ok (.aload_n 0, 1) := by decide +kernel
theorem d2_30 : decode prog_23_method_1_code 30 = .ok (.iload_n 1, 1) := by decide +kernel
theorem d2_31 : decode prog_23_method_1_code 31 = .ok (.putfield 16, 3) := by decide +kernel
theorem sn0 {Z : State} {a0 : Array Value} (hw : ∀ d ∈ tables_1, d.before a0 Z = true) : Jvm.RoadKit.slotOf Z "dev/ambrotype/Size" "height" "I" ≠ Jvm.RoadKit.slotOf Z "dev/ambrotype/Size" "width" "I" := slot_ne (Or.inr (ww hw 22 rfl)) (Or.inr (ww hw 20 rfl)) (by decide) (t := .int) (t' := .int) (by decide) (by decide)
theorem d2_34 : decode prog_23_method_1_code 34 = .ok (.aload_n 0, 1) := by decide +kernel
theorem d2_35 : decode prog_23_method_1_code 35 = .ok (.iload_n 2, 1) := by decide +kernel
theorem d2_36 : decode prog_23_method_1_code 36 = .ok (.putfield 22, 3) := by decide +kernel
theorem sn1 {Z : State} {a0 : Array Value} (hw : ∀ d ∈ tables_1, d.before a0 Z = true) : Jvm.RoadKit.slotOf Z "dev/ambrotype/Size" "width" "I" ≠ Jvm.RoadKit.slotOf Z "dev/ambrotype/Size" "height" "I" := slot_ne (Or.inr (ww hw 20 rfl)) (Or.inr (ww hw 22 rfl)) (by decide) (t := .int) (t' := .int) (by decide) (by decide)
theorem d2_39 : decode prog_23_method_1_code 39 = .ok (.return_, 1) := by decide +kernel
def Q2_1 (Z : State) (a_cache : Addr) (clC : Cell) (i0 : Int32) (i1 : Int32) (b0 : Addr) (h0 : Heap) (n0 : Nat) (v : Option Value) (h : Heap) (L : List Loc) : Prop := Fr n0 L ∧ ((v = none ∧ Keep h0 h [b0] ∧ Exa Z h b0 "dev/ambrotype/Size" ∧ Fld Z h b0 "dev/ambrotype/Size" "width" "I" (.int i0) ∧ Fld Z h b0 "dev/ambrotype/Size" "height" "I" (.int i1)))
set_option maxRecDepth 65536 in
set_option maxHeartbeats 40000000 in
theorem rm2_1 (l : Launch) (Z : State) (a0 : Array Value) (hw : ∀ d ∈ tables_1, d.before a0 Z = true) (ws : List Jvm.Cond) (a_cache : Addr) (clC : Cell) (i0 : Int32) (i1 : Int32) (b0 : Addr) (h0 : Heap) (n0 : Nat) (O0 : Old Z n0 h0) (HE : Env1 Z a_cache clC) (g_b0 : n0 ≤ b0) (f0 : Exa Z h0 b0 "dev/ambrotype/Size") (f1 : Fld Z h0 b0 "dev/ambrotype/Size" "width" "I" (.int (0 : Int32))) (f2 : Fld Z h0 b0 "dev/ambrotype/Size" "height" "I" (.int (0 : Int32))) (hp1 : ¬ (i0 < (1 : Int32))) (hp2 : ¬ (i1 < (1 : Int32))) :
    MetFree l M2 (head1 (Jvm.Cond.code M2 prog_23_method_1_code 3 none :: ws) ({ frames := 2, cells := 0, slots := 0, locals := 24 } : Room)) (fun a U => a = #[(.ref b0), (.int i0), (.int i1)] ∧ Z.Warmed39 U.vm ∧ U.heap = h0) (fun _ _ _ _ _ => True) (fun _ U o U' => ∃ v L, o = .returned v ∧ Q2_1 Z a_cache clC i0 i1 b0 h0 n0 v U'.heap L ∧ FrameEnd U o U' L ({ frames := 2, cells := 0, slots := 0, locals := 24 } : Room).cells ({ frames := 2, cells := 0, slots := 0, locals := 24 } : Room).slots) := by
 refine MetFree.of_bodySF (plainFor_of_name pn1) hisR ?_
 intro p e s m args below meth c s₁ Bd hml0 hP hK
 obtain ⟨rfl, hZ, hh⟩ := hP
 have hx := Bd.exec
 have hby := Bd.bytes
 have hml : c.maxLocals = 3 := hml0
 have hown : s.vm.findClass "dev/ambrotype/Size" = some m.cls := findClass_of_methodNamed Bd.named
 have hnm := (name_of_methodNamed Bd.named Bd.method).1
 have X0 : Stand p l e ({ frames := 2, cells := 0, slots := 0, locals := 24 } : Room) s m #[(.ref b0), (.int i0), (.int i1)] below meth c s₁ [] 0 0 := Stand.of_body Bd
 have e0 : s₁.heap = h0 := by rw [← hh, Bd.state]; rfl
 have N0 := Fr.nil n0
 let S0 : State → Prop := fun t => Steps p.tables e below (s₁.setTop (entryFrame m #[(.ref b0), (.int i0), (.int i1)] 3)) t
 have p0 : ∀ t, St p e below s₁ (mkF m 0 #[.val (.ref b0), .val (.int i0), .val (.int i1)] []) t → S0 t := fun t k => castTop (ef2 m b0 i0 i1) k
 have HE' := HE
 obtain ⟨Shigh, Scache, RC, ZC, TC⟩ := HE
 have p1 : ∀ t, St p e below s₁ (mkF m 1 #[.val (.ref b0), .val (.int i0), .val (.int i1)] [(.ref b0)]) t → S0 t := fun t k => p0 t (by
   show St p e below s₁ (mkF m 0 #[.val (.ref b0), .val (.int i0), .val (.int i1)] []) t
   refine XS.aloadN X0.here hx rfl (hb hby d2_0) rfl rfl ?_
   exact k)
 obtain ⟨_, _, ⟨Tc2, Lc2, kc2, nc2⟩, -, Xc2, ⟨Lcc2, hQc2, lc2, yc2, zc2⟩, stc2⟩ := X0.specialBack hx (y := M1) rfl hown (mvT hZ (ww hw 11 rfl)) (mvT hZ (ww hw 12 rfl)) (mvT hZ (ww hw 15 rfl)) (by decide) (backOf (W := 0) (rm3_2 l Z a0 hw [] a_cache clC b0 h0 n0 O0 HE' g_b0 f0 f1 f2) hZ (ww hw 15 rfl) (ww hw 14 rfl) (by decide) (by decide)) (g := (mkF m 1 #[.val (.ref b0), .val (.int i0), .val (.int i1)] [(.ref b0)])) rfl (by rw [hml]; rfl) (Steps.refl _) (a := b0) (argsL := []) (rest := []) (lenOf pd1 rfl) rfl (by show 2 * 0 + _ ≤ _; exact Nat.le_of_eq rfl) (hb hby d2_1) (fun _ _ => ⟨rfl, e0, (by decide : 0 + 0 ≤ _), (by decide : 0 + 0 ≤ _)⟩)
 dsimp only [Pt.U, Pt.locs, Pt.cells, Pt.slots] at Xc2 lc2 yc2 zc2 stc2 hQc2
 subst lc2 yc2 zc2
 obtain ⟨Nqc2, ec2, hAc2⟩ := hQc2
 have Nc2 := Fr.app N0 Nqc2
 obtain rfl := hAc2
 have p3 : ∀ t, St p e below Tc2 (mkF m 4 #[.val (.ref b0), .val (.int i0), .val (.int i1)] []) t → S0 t := fun t k => p1 t (stc2.trans k)
 have p4 : ∀ t, St p e below Tc2 (mkF m 6 #[.val (.ref b0), .val (.int i0), .val (.int i1)] [(.int (1 : Int32)), (.int i0)]) t → S0 t := fun t k => p3 t (by
   show St p e below Tc2 (mkF m 4 #[.val (.ref b0), .val (.int i0), .val (.int i1)] []) t
   refine XS.iloadN Xc2.here hx rfl (hb hby d2_4) rfl ?_
   show St p e below Tc2 (mkF m 5 #[.val (.ref b0), .val (.int i0), .val (.int i1)] [(.int i0)]) t
   refine XT.iconstV Xc2.here hx rfl (1 : Int32) (hb hby d2_5) (by decide) ?_
   exact k)
 have p5 : ∀ t, St p e below Tc2 (mkF m 11 #[.val (.ref b0), .val (.int i0), .val (.int i1)] [(.int (1 : Int32)), (.int i1)]) t → S0 t := fun t k => p4 t (by
   show St p e below Tc2 (mkF m 6 #[.val (.ref b0), .val (.int i0), .val (.int i1)] [(.int (1 : Int32)), (.int i0)]) t
   refine XS.icmpNo Xc2.here hx rfl (hb hby d2_6) rfl (flt hp1).1 ?_
   show St p e below Tc2 (mkF m 9 #[.val (.ref b0), .val (.int i0), .val (.int i1)] []) t
   refine XS.iloadN Xc2.here hx rfl (hb hby d2_9) rfl ?_
   show St p e below Tc2 (mkF m 10 #[.val (.ref b0), .val (.int i0), .val (.int i1)] [(.int i1)]) t
   refine XT.iconstV Xc2.here hx rfl (1 : Int32) (hb hby d2_10) (by decide) ?_
   exact k)
 have p6 : ∀ t, St p e below Tc2 (mkF m 31 #[.val (.ref b0), .val (.int i0), .val (.int i1)] [(.int i0), (.ref b0)]) t → S0 t := fun t k => p5 t (by
   show St p e below Tc2 (mkF m 11 #[.val (.ref b0), .val (.int i0), .val (.int i1)] [(.int (1 : Int32)), (.int i1)]) t
   refine XS.icmpYes Xc2.here hx rfl (pc0 := 11) (pc' := 29) rfl (hb hby d2_11) rfl (flt hp2).2.1 (by decide) (by decide) ?_
   show St p e below Tc2 (mkF m 29 #[.val (.ref b0), .val (.int i0), .val (.int i1)] []) t
   refine XS.aloadN Xc2.here hx rfl (hb hby d2_29) rfl rfl ?_
   show St p e below Tc2 (mkF m 30 #[.val (.ref b0), .val (.int i0), .val (.int i1)] [(.ref b0)]) t
   refine XS.iloadN Xc2.here hx rfl (hb hby d2_30) rfl ?_
   exact k)
 obtain ⟨T7, h7, X7, e7, W7, st7⟩ := putF Xc2 hx hZ hown (host := "") (Or.inl (ww hw 19 rfl)) Via.refl ec2 f1 f0 (Or.inr ⟨(ww hw 20 rfl), rfl, hnm⟩) (ww hw 6 rfl) (ty := .int) (by decide) rfl rfl (g := (mkF m 31 #[.val (.ref b0), .val (.int i0), .val (.int i1)] [(.int i0), (.ref b0)])) rfl rfl (hb hby d2_31)
 have E_8 := f0.wr W7
 have F_9 := f2.other W7 (Or.inr (sn0 hw))
 have O10 := O0.wr W7 g_b0
 have K11 := (Keep.refl h0 [b0]).wr W7 (Or.inl (List.mem_of_getElem? (i := 0) rfl))
 have F_12 : Fld Z h7 b0 "dev/ambrotype/Size" "width" "I" (.int i0) := f1.same W7
 have N13 := Fr.snoc X7 Nc2 g_b0
 have p14 : ∀ t, St p e below T7 (mkF m 34 #[.val (.ref b0), .val (.int i0), .val (.int i1)] []) t → S0 t := fun t k => p6 t (st7 t k)
 have p15 : ∀ t, St p e below T7 (mkF m 36 #[.val (.ref b0), .val (.int i0), .val (.int i1)] [(.int i1), (.ref b0)]) t → S0 t := fun t k => p14 t (by
   show St p e below T7 (mkF m 34 #[.val (.ref b0), .val (.int i0), .val (.int i1)] []) t
   refine XS.aloadN X7.here hx rfl (hb hby d2_34) rfl rfl ?_
   show St p e below T7 (mkF m 35 #[.val (.ref b0), .val (.int i0), .val (.int i1)] [(.ref b0)]) t
   refine XS.iloadN X7.here hx rfl (hb hby d2_35) rfl ?_
   exact k)
 obtain ⟨T16, h16, X16, e16, W16, st16⟩ := putF X7 hx hZ hown (host := "") (Or.inl (ww hw 21 rfl)) Via.refl e7 F_9 E_8 (Or.inr ⟨(ww hw 22 rfl), rfl, hnm⟩) (ww hw 6 rfl) (ty := .int) (by decide) rfl rfl (g := (mkF m 36 #[.val (.ref b0), .val (.int i0), .val (.int i1)] [(.int i1), (.ref b0)])) rfl rfl (hb hby d2_36)
 have E_17 := E_8.wr W16
 have F_18 := F_12.other W16 (Or.inr (sn1 hw))
 have O19 := O10.wr W16 g_b0
 have K20 := K11.wr W16 (Or.inl (List.mem_of_getElem? (i := 0) rfl))
 have F_21 : Fld Z h16 b0 "dev/ambrotype/Size" "height" "I" (.int i1) := F_9.same W16
 have N22 := Fr.snoc X16 N13 g_b0
 have p23 : ∀ t, St p e below T16 (mkF m 39 #[.val (.ref b0), .val (.int i0), .val (.int i1)] []) t → S0 t := fun t k => p15 t (st16 t k)
 obtain ⟨fs, hr, hrun, hended, hW, hsame⟩ := X16.leave (v := none) (fun _ => rfl)
 refine ⟨_, _, p23 _ ?_, hrun, hended, _, _, rfl, ?_, ⟨_, rfl⟩, hW, hsame.mono (by decide) (by decide)⟩
 · exact X16.returnOut hx Bd.returns (hb hby d2_39) hr
 · show Q2_1 Z a_cache clC i0 i1 b0 h0 n0 _ T16.heap _
   rw [e16]
   exact ⟨N22, ⟨rfl, K20, E_17, F_18, F_21⟩⟩
theorem pd2 : parseMethodDescriptor "(II)V" = some ⟨[.int, .int], none⟩ := by decide +kernel
theorem ef4 (m : MethodId) (x0 : Int32) : entryFrame m #[(.int x0)] 1 = mkF m 0 #[.val (.int x0)] [] := by first | (simp [entryFrame, mkF, argsToLocals, Value.category]; done) | rfl
theorem pn3 : plainName "java/lang/Integer" = true := by first | (simp [plainName, overriddenIn]; done) | decide +kernel
theorem d5_0 : decode jdk_33_method_22_code 0 = .ok (.iload_n 0, 1) := by decide +kernel
theorem d5_1 : decode jdk_33_method_22_code 1 = .ok (.bipush (-128), 2) := by decide +kernel
theorem d5_3 : decode jdk_33_method_22_code 3 = .ok (.if_icmp .lt 20, 3) := by decide +kernel
theorem d5_23 : decode jdk_33_method_22_code 23 = .ok (.new 1, 3) := by decide +kernel
theorem d5_26 : decode jdk_33_method_22_code 26 = .ok (.dup, 1) := by decide +kernel
theorem d5_27 : decode jdk_33_method_22_code 27 = .ok (.iload_n 0, 1) := by decide +kernel
theorem ef5 (m : MethodId) (x0 : Addr) (x1 : Int32) : entryFrame m #[(.ref x0), (.int x1)] 2 = mkF m 0 #[.val (.ref x0), .val (.int x1)] [] := by first | (simp [entryFrame, mkF, argsToLocals, Value.category]; done) | rfl
theorem d7_0 : decode jdk_33_method_23_code 0 = .ok (.aload_n 0, 1) := by decide +kernel
theorem ef6 (m : MethodId) (x0 : Addr) : entryFrame m #[(.ref x0)] 1 = mkF m 0 #[.val (.ref x0)] [] := by first | (simp [entryFrame, mkF, argsToLocals, Value.category]; done) | rfl
theorem pn4 : plainName "java/lang/Number" = true := by first | (simp [plainName, overriddenIn]; done) | decide +kernel
theorem d8_0 : decode jdk_18_method_1_code 0 = .ok (.aload_n 0, 1) := by decide +kernel
theorem d8_1 : decode jdk_18_method_1_code 1 = .ok (.invokespecial 1, 3) := by decide +kernel
theorem d8_4 : decode jdk_18_method_1_code 4 = .ok (.return_, 1) := by decide +kernel
def Q8_5 (Z : State) (a_cache : Addr) (clC : Cell) (b0 : Addr) (h0 : Heap) (n0 : Nat) (v : Option Value) (h : Heap) (L : List Loc) : Prop := Fr n0 L ∧ h = h0 ∧ ((v = none))
set_option maxRecDepth 65536 in
set_option maxHeartbeats 40000000 in
theorem rm8_5 (l : Launch) (Z : State) (a0 : Array Value) (hw : ∀ d ∈ tables_1, d.before a0 Z = true) (ws : List Jvm.Cond) (a_cache : Addr) (clC : Cell) (b0 : Addr) (h0 : Heap) (n0 : Nat) (O0 : Old Z n0 h0) (HE : Env1 Z a_cache clC) (g_b0 : n0 ≤ b0) (f0 : Exa Z h0 b0 "java/lang/Integer") (f1 : Fld Z h0 b0 "java/lang/Integer" "value" "I" (.int (0 : Int32))) :
    MetFree l M3 (head1 (Jvm.Cond.code M3 jdk_18_method_1_code 1 none :: ws) ({ frames := 1, cells := 0, slots := 0, locals := 12 } : Room)) (fun a U => a = #[(.ref b0)] ∧ Z.Warmed39 U.vm ∧ U.heap = h0) (fun _ _ _ _ _ => True) (fun _ U o U' => ∃ v L, o = .returned v ∧ Q8_5 Z a_cache clC b0 h0 n0 v U'.heap L ∧ FrameEnd U o U' L ({ frames := 1, cells := 0, slots := 0, locals := 12 } : Room).cells ({ frames := 1, cells := 0, slots := 0, locals := 12 } : Room).slots) := by
 refine MetFree.of_bodySF (plainFor_of_name pn4) hisR ?_
 intro p e s m args below meth c s₁ Bd hml0 hP hK
 obtain ⟨rfl, hZ, hh⟩ := hP
 have hx := Bd.exec
 have hby := Bd.bytes
 have hml : c.maxLocals = 1 := hml0
 have hown : s.vm.findClass "java/lang/Number" = some m.cls := findClass_of_methodNamed Bd.named
 have hnm := (name_of_methodNamed Bd.named Bd.method).1
 have X0 : Stand p l e ({ frames := 1, cells := 0, slots := 0, locals := 12 } : Room) s m #[(.ref b0)] below meth c s₁ [] 0 0 := Stand.of_body Bd
 have e0 : s₁.heap = h0 := by rw [← hh, Bd.state]; rfl
 have N0 := Fr.nil n0
 let S0 : State → Prop := fun t => Steps p.tables e below (s₁.setTop (entryFrame m #[(.ref b0)] 1)) t
 have p0 : ∀ t, St p e below s₁ (mkF m 0 #[.val (.ref b0)] []) t → S0 t := fun t k => castTop (ef6 m b0) k
 have HE' := HE
 obtain ⟨Shigh, Scache, RC, ZC, TC⟩ := HE
 have p1 : ∀ t, St p e below s₁ (mkF m 1 #[.val (.ref b0)] [(.ref b0)]) t → S0 t := fun t k => p0 t (by
   show St p e below s₁ (mkF m 0 #[.val (.ref b0)] []) t
   refine XS.aloadN X0.here hx rfl (hb hby d8_0) rfl rfl ?_
   exact k)
 obtain ⟨T2, X2, e2, st2⟩ := initO X0 hx hZ hown (ww hw 52 rfl) (ww hw 17 rfl) (ww hw 18 rfl) e0 (g := (mkF m 1 #[.val (.ref b0)] [(.ref b0)])) rfl (by rw [hml]; rfl) rfl (hb hby d8_1) (by decide) (W := 0) (by show 2 * 0 + _ ≤ _; exact Nat.le_of_eq rfl) (by decide)
 have p3 : ∀ t, St p e below T2 (mkF m 4 #[.val (.ref b0)] []) t → S0 t := fun t k => p1 t (st2 t k)
 obtain ⟨fs, hr, hrun, hended, hW, hsame⟩ := X2.leave (v := none) (fun _ => rfl)
 refine ⟨_, _, p3 _ ?_, hrun, hended, _, _, rfl, ?_, ⟨_, rfl⟩, hW, hsame.mono (by decide) (by decide)⟩
 · exact X2.returnOut hx Bd.returns (hb hby d8_4) hr
 · show Q8_5 Z a_cache clC b0 h0 n0 _ T2.heap _
   exact ⟨N0, e2, rfl⟩
theorem d7_1 : decode jdk_33_method_23_code 1 = .ok (.invokespecial 202, 3) := by decide +kernel
theorem d7_4 : decode jdk_33_method_23_code 4 = .ok (.aload_n 0, 1) := by decide +kernel
theorem d7_5 : decode jdk_33_method_23_code 5 = .ok (.iload_n 1, 1) := by decide +kernel
theorem d7_6 : decode jdk_33_method_23_code 6 = .ok (.putfield 205, 3) := by decide +kernel
theorem d7_9 : decode jdk_33_method_23_code 9 = .ok (.return_, 1) := by decide +kernel
def Q7_4 (Z : State) (a_cache : Addr) (clC : Cell) (i0 : Int32) (b0 : Addr) (h0 : Heap) (n0 : Nat) (v : Option Value) (h : Heap) (L : List Loc) : Prop := Fr n0 L ∧ ((v = none ∧ Keep h0 h [b0] ∧ Exa Z h b0 "java/lang/Integer" ∧ Fld Z h b0 "java/lang/Integer" "value" "I" (.int i0)))
set_option maxRecDepth 65536 in
set_option maxHeartbeats 40000000 in
theorem rm7_4 (l : Launch) (Z : State) (a0 : Array Value) (hw : ∀ d ∈ tables_1, d.before a0 Z = true) (ws : List Jvm.Cond) (a_cache : Addr) (clC : Cell) (i0 : Int32) (b0 : Addr) (h0 : Heap) (n0 : Nat) (O0 : Old Z n0 h0) (HE : Env1 Z a_cache clC) (g_b0 : n0 ≤ b0) (f0 : Exa Z h0 b0 "java/lang/Integer") (f1 : Fld Z h0 b0 "java/lang/Integer" "value" "I" (.int (0 : Int32))) :
    MetFree l M4 (head1 (Jvm.Cond.code M4 jdk_33_method_23_code 2 none :: ws) ({ frames := 2, cells := 0, slots := 0, locals := 24 } : Room)) (fun a U => a = #[(.ref b0), (.int i0)] ∧ Z.Warmed39 U.vm ∧ U.heap = h0) (fun _ _ _ _ _ => True) (fun _ U o U' => ∃ v L, o = .returned v ∧ Q7_4 Z a_cache clC i0 b0 h0 n0 v U'.heap L ∧ FrameEnd U o U' L ({ frames := 2, cells := 0, slots := 0, locals := 24 } : Room).cells ({ frames := 2, cells := 0, slots := 0, locals := 24 } : Room).slots) := by
 refine MetFree.of_bodySF (plainFor_of_name pn3) hisR ?_
 intro p e s m args below meth c s₁ Bd hml0 hP hK
 obtain ⟨rfl, hZ, hh⟩ := hP
 have hx := Bd.exec
 have hby := Bd.bytes
 have hml : c.maxLocals = 2 := hml0
 have hown : s.vm.findClass "java/lang/Integer" = some m.cls := findClass_of_methodNamed Bd.named
 have hnm := (name_of_methodNamed Bd.named Bd.method).1
 have X0 : Stand p l e ({ frames := 2, cells := 0, slots := 0, locals := 24 } : Room) s m #[(.ref b0), (.int i0)] below meth c s₁ [] 0 0 := Stand.of_body Bd
 have e0 : s₁.heap = h0 := by rw [← hh, Bd.state]; rfl
 have N0 := Fr.nil n0
 let S0 : State → Prop := fun t => Steps p.tables e below (s₁.setTop (entryFrame m #[(.ref b0), (.int i0)] 2)) t
 have p0 : ∀ t, St p e below s₁ (mkF m 0 #[.val (.ref b0), .val (.int i0)] []) t → S0 t := fun t k => castTop (ef5 m b0 i0) k
 have HE' := HE
 obtain ⟨Shigh, Scache, RC, ZC, TC⟩ := HE
 have p1 : ∀ t, St p e below s₁ (mkF m 1 #[.val (.ref b0), .val (.int i0)] [(.ref b0)]) t → S0 t := fun t k => p0 t (by
   show St p e below s₁ (mkF m 0 #[.val (.ref b0), .val (.int i0)] []) t
   refine XS.aloadN X0.here hx rfl (hb hby d7_0) rfl rfl ?_
   exact k)
 obtain ⟨_, _, ⟨Tc2, Lc2, kc2, nc2⟩, -, Xc2, ⟨Lcc2, hQc2, lc2, yc2, zc2⟩, stc2⟩ := X0.specialBack hx (y := M3) rfl hown (mvT hZ (ww hw 46 rfl)) (mvT hZ (ww hw 47 rfl)) (mvT hZ (ww hw 51 rfl)) (by decide) (backOf (W := 0) (rm8_5 l Z a0 hw [] a_cache clC b0 h0 n0 O0 HE' g_b0 f0 f1) hZ (ww hw 51 rfl) (ww hw 50 rfl) (by decide) (by decide)) (g := (mkF m 1 #[.val (.ref b0), .val (.int i0)] [(.ref b0)])) rfl (by rw [hml]; rfl) (Steps.refl _) (a := b0) (argsL := []) (rest := []) (lenOf pd1 rfl) rfl (by show 2 * 0 + _ ≤ _; exact Nat.le_of_eq rfl) (hb hby d7_1) (fun _ _ => ⟨rfl, e0, (by decide : 0 + 0 ≤ _), (by decide : 0 + 0 ≤ _)⟩)
 dsimp only [Pt.U, Pt.locs, Pt.cells, Pt.slots] at Xc2 lc2 yc2 zc2 stc2 hQc2
 subst lc2 yc2 zc2
 obtain ⟨Nqc2, ec2, hAc2⟩ := hQc2
 have Nc2 := Fr.app N0 Nqc2
 obtain rfl := hAc2
 have p3 : ∀ t, St p e below Tc2 (mkF m 4 #[.val (.ref b0), .val (.int i0)] []) t → S0 t := fun t k => p1 t (stc2.trans k)
 have p4 : ∀ t, St p e below Tc2 (mkF m 6 #[.val (.ref b0), .val (.int i0)] [(.int i0), (.ref b0)]) t → S0 t := fun t k => p3 t (by
   show St p e below Tc2 (mkF m 4 #[.val (.ref b0), .val (.int i0)] []) t
   refine XS.aloadN Xc2.here hx rfl (hb hby d7_4) rfl rfl ?_
   show St p e below Tc2 (mkF m 5 #[.val (.ref b0), .val (.int i0)] [(.ref b0)]) t
   refine XS.iloadN Xc2.here hx rfl (hb hby d7_5) rfl ?_
   exact k)
 obtain ⟨T5, h5, X5, e5, W5, st5⟩ := putF Xc2 hx hZ hown (host := "") (Or.inl (ww hw 53 rfl)) Via.refl ec2 f1 f0 (Or.inr ⟨(ww hw 54 rfl), rfl, hnm⟩) (ww hw 41 rfl) (ty := .int) (by decide) rfl rfl (g := (mkF m 6 #[.val (.ref b0), .val (.int i0)] [(.int i0), (.ref b0)])) rfl rfl (hb hby d7_6)
 have E_6 := f0.wr W5
 have O7 := O0.wr W5 g_b0
 have K8 := (Keep.refl h0 [b0]).wr W5 (Or.inl (List.mem_of_getElem? (i := 0) rfl))
 have F_9 : Fld Z h5 b0 "java/lang/Integer" "value" "I" (.int i0) := f1.same W5
 have N10 := Fr.snoc X5 Nc2 g_b0
 have p11 : ∀ t, St p e below T5 (mkF m 9 #[.val (.ref b0), .val (.int i0)] []) t → S0 t := fun t k => p4 t (st5 t k)
 obtain ⟨fs, hr, hrun, hended, hW, hsame⟩ := X5.leave (v := none) (fun _ => rfl)
 refine ⟨_, _, p11 _ ?_, hrun, hended, _, _, rfl, ?_, ⟨_, rfl⟩, hW, hsame.mono (by decide) (by decide)⟩
 · exact X5.returnOut hx Bd.returns (hb hby d7_9) hr
 · show Q7_4 Z a_cache clC i0 b0 h0 n0 _ T5.heap _
   rw [e5]
   exact ⟨N10, ⟨rfl, K8, E_6, F_9⟩⟩
theorem pd3 : parseMethodDescriptor "(I)V" = some ⟨[.int], none⟩ := by decide +kernel
theorem d5_28 : decode jdk_33_method_22_code 28 = .ok (.invokespecial 199, 3) := by decide +kernel
theorem d5_31 : decode jdk_33_method_22_code 31 = .ok (.areturn, 1) := by decide +kernel
theorem d5_6 : decode jdk_33_method_22_code 6 = .ok (.iload_n 0, 1) := by decide +kernel
theorem d5_7 : decode jdk_33_method_22_code 7 = .ok (.getstatic 191, 3) := by decide +kernel
theorem d5_10 : decode jdk_33_method_22_code 10 = .ok (.if_icmp .gt 13, 3) := by decide +kernel
theorem d5_13 : decode jdk_33_method_22_code 13 = .ok (.getstatic 195, 3) := by decide +kernel
theorem d5_16 : decode jdk_33_method_22_code 16 = .ok (.iload_n 0, 1) := by decide +kernel
theorem d5_17 : decode jdk_33_method_22_code 17 = .ok (.sipush 128, 3) := by decide +kernel
theorem d5_20 : decode jdk_33_method_22_code 20 = .ok (.iadd, 1) := by decide +kernel
theorem d5_21 : decode jdk_33_method_22_code 21 = .ok (.aaload, 1) := by decide +kernel
theorem d5_22 : decode jdk_33_method_22_code 22 = .ok (.areturn, 1) := by decide +kernel
def Q5_3 (Z : State) (a_cache : Addr) (clC : Cell) (i0 : Int32) (h0 : Heap) (n0 : Nat) (v : Option Value) (h : Heap) (L : List Loc) : Prop := Fr n0 L ∧ ((∃ (o4 : Addr), v = some (.ref o4) ∧ Keep h0 h [] ∧ Exa Z h o4 "java/lang/Integer"))
set_option maxRecDepth 65536 in
set_option maxHeartbeats 40000000 in
theorem rm5_3 (l : Launch) (Z : State) (a0 : Array Value) (hw : ∀ d ∈ tables_1, d.before a0 Z = true) (ws : List Jvm.Cond) (a_cache : Addr) (clC : Cell) (i0 : Int32) (h0 : Heap) (n0 : Nat) (O0 : Old Z n0 h0) (HE : Env1 Z a_cache clC)  :
    MetFree l M5 (head1 (Jvm.Cond.code M5 jdk_33_method_22_code 1 (some (.object "java/lang/Integer")) :: ws) ({ frames := 3, cells := 1, slots := 1, locals := 38 } : Room)) (fun a U => a = #[(.int i0)] ∧ Z.Warmed39 U.vm ∧ U.heap = h0) (fun _ _ _ _ _ => True) (fun _ U o U' => ∃ v L, o = .returned v ∧ Q5_3 Z a_cache clC i0 h0 n0 v U'.heap L ∧ FrameEnd U o U' L ({ frames := 3, cells := 1, slots := 1, locals := 38 } : Room).cells ({ frames := 3, cells := 1, slots := 1, locals := 38 } : Room).slots) := by
 refine MetFree.of_bodySF (plainFor_of_name pn3) hisR ?_
 intro p e s m args below meth c s₁ Bd hml0 hP hK
 obtain ⟨rfl, hZ, hh⟩ := hP
 have hx := Bd.exec
 have hby := Bd.bytes
 have hml : c.maxLocals = 1 := hml0
 have hown : s.vm.findClass "java/lang/Integer" = some m.cls := findClass_of_methodNamed Bd.named
 have hnm := (name_of_methodNamed Bd.named Bd.method).1
 have X0 : Stand p l e ({ frames := 3, cells := 1, slots := 1, locals := 38 } : Room) s m #[(.int i0)] below meth c s₁ [] 0 0 := Stand.of_body Bd
 have e0 : s₁.heap = h0 := by rw [← hh, Bd.state]; rfl
 have N0 := Fr.nil n0
 let S0 : State → Prop := fun t => Steps p.tables e below (s₁.setTop (entryFrame m #[(.int i0)] 1)) t
 have p0 : ∀ t, St p e below s₁ (mkF m 0 #[.val (.int i0)] []) t → S0 t := fun t k => castTop (ef4 m i0) k
 have HE' := HE
 obtain ⟨Shigh, Scache, RC, ZC, TC⟩ := HE
 have p1 : ∀ t, St p e below s₁ (mkF m 3 #[.val (.int i0)] [(.int (-128 : Int32)), (.int i0)]) t → S0 t := fun t k => p0 t (by
   show St p e below s₁ (mkF m 0 #[.val (.int i0)] []) t
   refine XS.iloadN X0.here hx rfl (hb hby d5_0) rfl ?_
   show St p e below s₁ (mkF m 1 #[.val (.int i0)] [(.int i0)]) t
   refine XT.bipushV X0.here hx rfl (-128 : Int32) (hb hby d5_1) (by decide) ?_
   exact k)
 by_cases g2 : i0 < (-128 : Int32)
 ·
  have p3 : ∀ t, St p e below s₁ (mkF m 23 #[.val (.int i0)] []) t → S0 t := fun t k => p1 t (by
    show St p e below s₁ (mkF m 3 #[.val (.int i0)] [(.int (-128 : Int32)), (.int i0)]) t
    refine XS.icmpYes X0.here hx rfl (pc0 := 3) (pc' := 23) rfl (hb hby d5_3) rfl (tlt g2).1 (by decide) (by decide) ?_
    exact k)
  obtain ⟨T4, h4, X4, e4, E4, A4, D4, -, st4⟩ := newO X0 hx hZ hown (ww hw 40 rfl) (ww hw 41 rfl) (ww hw 25 rfl) e0 (g := (mkF m 23 #[.val (.int i0)] [])) rfl (hb hby d5_23) (by decide) (by decide)
  obtain ⟨o4, gq4⟩ : ∃ z, z = (h0).size := ⟨_, rfl⟩
  rw [← gq4] at A4 D4 st4
  have gb_o4 : n0 ≤ o4 := Nat.le_trans (own_old_le O0) (Nat.le_of_eq gq4.symm)
  have sz_o4 : h0.size ≤ o4 := Nat.le_trans ((Keep.refl h0 [])).1 (Nat.le_of_eq gq4.symm)
  have O5 := O0.ext E4
  have K6 := (Keep.refl h0 []).ext E4
  have E_7 : Exa Z h4 o4 "java/lang/Integer" := A4
  have F_8 : Fld Z h4 o4 "java/lang/Integer" "value" "I" (.int (0 : Int32)) := D4 (Or.inr (ww hw 54 rfl)) (ty := .int) (by decide)
  have p9 : ∀ t, St p e below T4 (mkF m 26 #[.val (.int i0)] [(.ref o4)]) t → S0 t := fun t k => p3 t (st4 t k)
  have p10 : ∀ t, St p e below T4 (mkF m 28 #[.val (.int i0)] [(.int i0), (.ref o4), (.ref o4)]) t → S0 t := fun t k => p9 t (by
    show St p e below T4 (mkF m 26 #[.val (.int i0)] [(.ref o4)]) t
    refine XS.dup X4.here hx rfl (hb hby d5_26) rfl rfl ?_
    show St p e below T4 (mkF m 27 #[.val (.int i0)] [(.ref o4), (.ref o4)]) t
    refine XS.iloadN X4.here hx rfl (hb hby d5_27) rfl ?_
    exact k)
  obtain ⟨_, _, ⟨Tc11, Lc11, kc11, nc11⟩, -, Xc11, ⟨Lcc11, hQc11, lc11, yc11, zc11⟩, stc11⟩ := X4.specialBack hx (y := M4) rfl hown (mvT hZ (ww hw 42 rfl)) (mvT hZ (ww hw 43 rfl)) (mvT hZ (ww hw 45 rfl)) (by decide) (backOf (W := 1) (rm7_4 l Z a0 hw [] a_cache clC i0 o4 h4 n0 O5 HE' gb_o4 E_7 F_8) hZ (ww hw 45 rfl) (ww hw 25 rfl) (by decide) (by decide)) (g := (mkF m 28 #[.val (.int i0)] [(.int i0), (.ref o4), (.ref o4)])) rfl (by rw [hml]; rfl) (Steps.refl _) (a := o4) (argsL := [(.int i0)]) (rest := [(.ref o4)]) (lenOf pd3 rfl) rfl (by show 2 * 0 + _ ≤ _; exact Nat.le_of_eq rfl) (hb hby d5_28) (fun _ _ => ⟨rfl, e4, (by decide : 1 + 0 ≤ _), (by decide : 1 + 0 ≤ _)⟩)
  dsimp only [Pt.U, Pt.locs, Pt.cells, Pt.slots] at Xc11 lc11 yc11 zc11 stc11 hQc11
  subst lc11 yc11 zc11
  obtain ⟨Nqc11, hAc11⟩ := hQc11
  have Nc11 := Fr.app N0 Nqc11
  obtain ⟨rfl, Kcc11, f_12, f_13⟩ := hAc11
  have O14 := O5.keep Kcc11 (allS gb_o4 all0)
  have K15 := Keep.trans K6 Kcc11 (allS (Or.inr sz_o4) all0)
  have p16 : ∀ t, St p e below Tc11 (mkF m 31 #[.val (.int i0)] [(.ref o4)]) t → S0 t := fun t k => p10 t (stc11.trans k)
  obtain ⟨fs, hr, hrun, hended, hW, hsame⟩ := Xc11.leave (v := some (.ref o4)) (fun h => by rw [Bd.returns] at h; cases h)
  refine ⟨_, _, p16 _ ?_, hrun, hended, _, _, rfl, ?_, ⟨_, rfl⟩, hW, hsame.mono (by decide) (by decide)⟩
  · exact retOut Xc11 hx Bd.returns rfl (Or.inr (Or.inr (Or.inr (Or.inr ⟨rfl, rfl, rfl⟩)))) (hb hby d5_31) hr
  · show Q5_3 Z a_cache clC i0 h0 n0 _ Tc11.heap _
    exact ⟨Nc11, ⟨o4, rfl, K15, f_12⟩⟩
 ·
  have p17 : ∀ t, St p e below s₁ (mkF m 7 #[.val (.int i0)] [(.int i0)]) t → S0 t := fun t k => p1 t (by
    show St p e below s₁ (mkF m 3 #[.val (.int i0)] [(.int (-128 : Int32)), (.int i0)]) t
    refine XS.icmpNo X0.here hx rfl (hb hby d5_3) rfl (flt g2).1 ?_
    show St p e below s₁ (mkF m 6 #[.val (.int i0)] []) t
    refine XS.iloadN X0.here hx rfl (hb hby d5_6) rfl ?_
    exact k)
  obtain ⟨T18, X18, e18, st18⟩ := getS2 X0 hx hZ hown (host := "") (Or.inl (ww hw 27 rfl)) Via.refl e0 (Shigh.ext O0.2) (g := (mkF m 7 #[.val (.int i0)] [(.int i0)])) rfl (hb hby d5_7)
  have p19 : ∀ t, St p e below T18 (mkF m 10 #[.val (.int i0)] [(.int (127 : Int32)), (.int i0)]) t → S0 t := fun t k => p17 t (st18 t k)
  by_cases g20 : (127 : Int32) < i0
  ·
   have p21 : ∀ t, St p e below T18 (mkF m 23 #[.val (.int i0)] []) t → S0 t := fun t k => p19 t (by
     show St p e below T18 (mkF m 10 #[.val (.int i0)] [(.int (127 : Int32)), (.int i0)]) t
     refine XS.icmpYes X18.here hx rfl (pc0 := 10) (pc' := 23) rfl (hb hby d5_10) rfl (tlt g20).2.2.1 (by decide) (by decide) ?_
     exact k)
   obtain ⟨T22, h22, X22, e22, E22, A22, D22, -, st22⟩ := newO X18 hx hZ hown (ww hw 40 rfl) (ww hw 41 rfl) (ww hw 25 rfl) e18 (g := (mkF m 23 #[.val (.int i0)] [])) rfl (hb hby d5_23) (by decide) (by decide)
   obtain ⟨o22, gq22⟩ : ∃ z, z = (h0).size := ⟨_, rfl⟩
   rw [← gq22] at A22 D22 st22
   have gb_o22 : n0 ≤ o22 := Nat.le_trans (own_old_le O0) (Nat.le_of_eq gq22.symm)
   have sz_o22 : h0.size ≤ o22 := Nat.le_trans ((Keep.refl h0 [])).1 (Nat.le_of_eq gq22.symm)
   have O23 := O0.ext E22
   have K24 := (Keep.refl h0 []).ext E22
   have E_25 : Exa Z h22 o22 "java/lang/Integer" := A22
   have F_26 : Fld Z h22 o22 "java/lang/Integer" "value" "I" (.int (0 : Int32)) := D22 (Or.inr (ww hw 54 rfl)) (ty := .int) (by decide)
   have p27 : ∀ t, St p e below T22 (mkF m 26 #[.val (.int i0)] [(.ref o22)]) t → S0 t := fun t k => p21 t (st22 t k)
   have p28 : ∀ t, St p e below T22 (mkF m 28 #[.val (.int i0)] [(.int i0), (.ref o22), (.ref o22)]) t → S0 t := fun t k => p27 t (by
     show St p e below T22 (mkF m 26 #[.val (.int i0)] [(.ref o22)]) t
     refine XS.dup X22.here hx rfl (hb hby d5_26) rfl rfl ?_
     show St p e below T22 (mkF m 27 #[.val (.int i0)] [(.ref o22), (.ref o22)]) t
     refine XS.iloadN X22.here hx rfl (hb hby d5_27) rfl ?_
     exact k)
   obtain ⟨_, _, ⟨Tc29, Lc29, kc29, nc29⟩, -, Xc29, ⟨Lcc29, hQc29, lc29, yc29, zc29⟩, stc29⟩ := X22.specialBack hx (y := M4) rfl hown (mvT hZ (ww hw 42 rfl)) (mvT hZ (ww hw 43 rfl)) (mvT hZ (ww hw 45 rfl)) (by decide) (backOf (W := 1) (rm7_4 l Z a0 hw [] a_cache clC i0 o22 h22 n0 O23 HE' gb_o22 E_25 F_26) hZ (ww hw 45 rfl) (ww hw 25 rfl) (by decide) (by decide)) (g := (mkF m 28 #[.val (.int i0)] [(.int i0), (.ref o22), (.ref o22)])) rfl (by rw [hml]; rfl) (Steps.refl _) (a := o22) (argsL := [(.int i0)]) (rest := [(.ref o22)]) (lenOf pd3 rfl) rfl (by show 2 * 0 + _ ≤ _; exact Nat.le_of_eq rfl) (hb hby d5_28) (fun _ _ => ⟨rfl, e22, (by decide : 1 + 0 ≤ _), (by decide : 1 + 0 ≤ _)⟩)
   dsimp only [Pt.U, Pt.locs, Pt.cells, Pt.slots] at Xc29 lc29 yc29 zc29 stc29 hQc29
   subst lc29 yc29 zc29
   obtain ⟨Nqc29, hAc29⟩ := hQc29
   have Nc29 := Fr.app N0 Nqc29
   obtain ⟨rfl, Kcc29, f_30, f_31⟩ := hAc29
   have O32 := O23.keep Kcc29 (allS gb_o22 all0)
   have K33 := Keep.trans K24 Kcc29 (allS (Or.inr sz_o22) all0)
   have p34 : ∀ t, St p e below Tc29 (mkF m 31 #[.val (.int i0)] [(.ref o22)]) t → S0 t := fun t k => p28 t (stc29.trans k)
   obtain ⟨fs, hr, hrun, hended, hW, hsame⟩ := Xc29.leave (v := some (.ref o22)) (fun h => by rw [Bd.returns] at h; cases h)
   refine ⟨_, _, p34 _ ?_, hrun, hended, _, _, rfl, ?_, ⟨_, rfl⟩, hW, hsame.mono (by decide) (by decide)⟩
   · exact retOut Xc29 hx Bd.returns rfl (Or.inr (Or.inr (Or.inr (Or.inr ⟨rfl, rfl, rfl⟩)))) (hb hby d5_31) hr
   · show Q5_3 Z a_cache clC i0 h0 n0 _ Tc29.heap _
     exact ⟨Nc29, ⟨o22, rfl, K33, f_30⟩⟩
  ·
   have p35 : ∀ t, St p e below T18 (mkF m 13 #[.val (.int i0)] []) t → S0 t := fun t k => p19 t (by
     show St p e below T18 (mkF m 10 #[.val (.int i0)] [(.int (127 : Int32)), (.int i0)]) t
     refine XS.icmpNo X18.here hx rfl (hb hby d5_10) rfl (flt g20).2.2.1 ?_
     exact k)
   obtain ⟨T36, X36, e36, st36⟩ := getS2 X18 hx hZ hown (host := "") (Or.inl (ww hw 29 rfl)) Via.refl e18 (Scache.ext O0.2) (g := (mkF m 13 #[.val (.int i0)] [])) rfl (hb hby d5_13)
   have p37 : ∀ t, St p e below T36 (mkF m 16 #[.val (.int i0)] [(.ref a_cache)]) t → S0 t := fun t k => p35 t (st36 t k)
   have p38 : ∀ t, St p e below T36 (mkF m 21 #[.val (.int i0)] [(.int (i0 + (128 : Int32))), (.ref a_cache)]) t → S0 t := fun t k => p37 t (by
     show St p e below T36 (mkF m 16 #[.val (.int i0)] [(.ref a_cache)]) t
     refine XS.iloadN X36.here hx rfl (hb hby d5_16) rfl ?_
     show St p e below T36 (mkF m 17 #[.val (.int i0)] [(.int i0), (.ref a_cache)]) t
     refine XT.sipushV X36.here hx rfl (128 : Int32) (hb hby d5_17) (by decide) ?_
     show St p e below T36 (mkF m 20 #[.val (.int i0)] [(.int (128 : Int32)), (.int i0), (.ref a_cache)]) t
     refine XS.iadd X36.here hx rfl (hb hby d5_20) rfl ?_
     exact k)
   have q40 : ¬ ((i0 + (128 : Int32)) < (0 : Int32)) := by
    intro r41
    have q1_ := nltI g2
    have q2_ := nltI g20
    have q3_ := ltI r41
    have l4_ := rng32 i0
    have l5_ := lIm128
    have l6_ := lI127
    have l7_ := lI128
    have l8_ := c_iadd i0 (128 : Int32)
    have l8b_ := rng32 (i0 + (128 : Int32))
    have l9_ := lI0
    omega
   have q42 : (i0 + (128 : Int32)) < (256 : Int32) := by
    refine Decidable.byContradiction fun r43 => ?_
    have q1_ := nltI g2
    have q2_ := nltI g20
    have q3_ := nltI r43
    have l4_ := rng32 i0
    have l5_ := lIm128
    have l6_ := lI127
    have l7_ := lI128
    have l8_ := c_iadd i0 (128 : Int32)
    have l8b_ := rng32 (i0 + (128 : Int32))
    have l9_ := lI256
    omega
   have hin39 : ¬ ((i0 + (128 : Int32)) < 0 ∨ clC.slots.size ≤ (i0 + (128 : Int32)).toNatClampNeg) := inb_of ZC ⟨q40, q42⟩
   obtain ⟨ob39, hat39, Eo39⟩ := TC (i0 + (128 : Int32)) q40 q42
   have E_44 : Exa Z h0 ob39 "java/lang/Integer" := Eo39.ext O0.2
   have p45 : ∀ t, St p e below T36 (mkF m 22 #[.val (.int i0)] [(.ref ob39)]) t → S0 t := fun t k => p38 t (by
     show St p e below T36 (mkF m 21 #[.val (.int i0)] [(.int (i0 + (128 : Int32))), (.ref a_cache)]) t
     refine X36.aaload hx (j := (i0 + (128 : Int32))) (v := (.ref ob39)) (by rw [e36]; exact (RC.ext O0.2).1) (State.isArrayOf_alike hZ.alike RC.2.1) rfl RC.2.2 hin39 hat39 (g := (mkF m 21 #[.val (.int i0)] [(.int (i0 + (128 : Int32))), (.ref a_cache)])) rfl rfl (hb hby d5_21) _ ?_
     exact k)
   obtain ⟨fs, hr, hrun, hended, hW, hsame⟩ := X36.leave (v := some (.ref ob39)) (fun h => by rw [Bd.returns] at h; cases h)
   refine ⟨_, _, p45 _ ?_, hrun, hended, _, _, rfl, ?_, ⟨_, rfl⟩, hW, hsame.mono (by decide) (by decide)⟩
   · exact retOut X36 hx Bd.returns rfl (Or.inr (Or.inr (Or.inr (Or.inr ⟨rfl, rfl, rfl⟩)))) (hb hby d5_22) hr
   · show Q5_3 Z a_cache clC i0 h0 n0 _ T36.heap _
     rw [e36]
     exact ⟨N0, ⟨ob39, rfl, (Keep.refl h0 []), E_44⟩⟩
theorem pd4 : parseMethodDescriptor "(I)Ljava/lang/Integer;" = some ⟨[.int], some (.object "java/lang/Integer")⟩ := by decide +kernel
theorem ef7 (m : MethodId) (x0 : Addr) (x1 : Addr) : entryFrame m #[(.ref x0), (.ref x1)] 3 = mkF m 0 #[.val (.ref x0), .val (.ref x1), .unset] [] := by first | (simp [entryFrame, mkF, argsToLocals, Value.category]; done) | rfl
theorem d6_0 : decode prog_23_method_8_code 0 = .ok (.aload_n 1, 1) := by decide +kernel
theorem d6_1 : decode prog_23_method_8_code 1 = .ok (.instanceof 17, 3) := by decide +kernel
theorem d6_4 : decode prog_23_method_8_code 4 = .ok (.ifCond .eq 34, 3) := by decide +kernel
theorem d6_7 : decode prog_23_method_8_code 7 = .ok (.aload_n 1, 1) := by decide +kernel
theorem d6_8 : decode prog_23_method_8_code 8 = .ok (.checkcast 17, 3) := by decide +kernel
theorem d6_11 : decode prog_23_method_8_code 11 = .ok (.astore_n 2, 1) := by decide +kernel
theorem d6_12 : decode prog_23_method_8_code 12 = .ok (.aload_n 0, 1) := by decide +kernel
theorem d6_13 : decode prog_23_method_8_code 13 = .ok (.getfield 16, 3) := by decide +kernel
theorem d6_16 : decode prog_23_method_8_code 16 = .ok (.aload_n 2, 1) := by decide +kernel
theorem d6_17 : decode prog_23_method_8_code 17 = .ok (.getfield 16, 3) := by decide +kernel
theorem d6_20 : decode prog_23_method_8_code 20 = .ok (.if_icmp .ne 18, 3) := by decide +kernel
theorem d6_23 : decode prog_23_method_8_code 23 = .ok (.aload_n 0, 1) := by decide +kernel
theorem d6_24 : decode prog_23_method_8_code 24 = .ok (.getfield 22, 3) := by decide +kernel
theorem d6_27 : decode prog_23_method_8_code 27 = .ok (.aload_n 2, 1) := by decide +kernel
theorem d6_28 : decode prog_23_method_8_code 28 = .ok (.getfield 22, 3) := by decide +kernel
theorem d6_31 : decode prog_23_method_8_code 31 = .ok (.if_icmp .ne 7, 3) := by decide +kernel
theorem d6_34 : decode prog_23_method_8_code 34 = .ok (.iconst 1, 1) := by decide +kernel
theorem d6_35 : decode prog_23_method_8_code 35 = .ok (.goto 4, 3) := by decide +kernel
theorem d6_39 : decode prog_23_method_8_code 39 = .ok (.ireturn, 1) := by decide +kernel
theorem d6_38 : decode prog_23_method_8_code 38 = .ok (.iconst 0, 1) := by decide +kernel
def Q6_6 (Z : State) (a_cache : Addr) (clC : Cell) (i0 : Int32) (i1 : Int32) (i2 : Int32) (i3 : Int32) (b0 : Addr) (b1 : Addr) (h0 : Heap) (n0 : Nat) (v : Option Value) (h : Heap) (L : List Loc) : Prop := Fr n0 L ∧ h = h0 ∧ ((v = some (.int (1 : Int32)) ∧ i0 = i2 ∧ i1 = i3) ∨ (v = some (.int (0 : Int32)) ∧ i0 = i2 ∧ ¬ (i1 = i3)) ∨ (v = some (.int (0 : Int32)) ∧ ¬ (i0 = i2)))
set_option maxRecDepth 65536 in
set_option maxHeartbeats 40000000 in
theorem rm6_6 (l : Launch) (Z : State) (a0 : Array Value) (hw : ∀ d ∈ tables_1, d.before a0 Z = true) (ws : List Jvm.Cond) (a_cache : Addr) (clC : Cell) (i0 : Int32) (i1 : Int32) (i2 : Int32) (i3 : Int32) (b0 : Addr) (b1 : Addr) (h0 : Heap) (n0 : Nat) (O0 : Old Z n0 h0) (HE : Env1 Z a_cache clC) (g_b0 : n0 ≤ b0) (g_b1 : n0 ≤ b1) (ne_b0_b1 : b0 ≠ b1) (f0 : Exa Z h0 b0 "dev/ambrotype/Size") (f1 : Fld Z h0 b0 "dev/ambrotype/Size" "width" "I" (.int i0)) (f2 : Fld Z h0 b0 "dev/ambrotype/Size" "height" "I" (.int i1)) (f3 : Exa Z h0 b1 "dev/ambrotype/Size") (f4 : Fld Z h0 b1 "dev/ambrotype/Size" "width" "I" (.int i2)) (f5 : Fld Z h0 b1 "dev/ambrotype/Size" "height" "I" (.int i3)) :
    MetFree l M6 (head1 (Jvm.Cond.code M6 prog_23_method_8_code 3 (some .boolean) :: ws) ({ frames := 0, cells := 0, slots := 0, locals := 0 } : Room)) (fun a U => a = #[(.ref b0), (.ref b1)] ∧ Z.Warmed39 U.vm ∧ U.heap = h0) (fun _ _ _ _ _ => True) (fun _ U o U' => ∃ v L, o = .returned v ∧ Q6_6 Z a_cache clC i0 i1 i2 i3 b0 b1 h0 n0 v U'.heap L ∧ FrameEnd U o U' L ({ frames := 0, cells := 0, slots := 0, locals := 0 } : Room).cells ({ frames := 0, cells := 0, slots := 0, locals := 0 } : Room).slots) := by
 refine MetFree.of_bodySF (plainFor_of_name pn1) hisR ?_
 intro p e s m args below meth c s₁ Bd hml0 hP hK
 obtain ⟨rfl, hZ, hh⟩ := hP
 have hx := Bd.exec
 have hby := Bd.bytes
 have hml : c.maxLocals = 3 := hml0
 have hown : s.vm.findClass "dev/ambrotype/Size" = some m.cls := findClass_of_methodNamed Bd.named
 have hnm := (name_of_methodNamed Bd.named Bd.method).1
 have X0 : Stand p l e ({ frames := 0, cells := 0, slots := 0, locals := 0 } : Room) s m #[(.ref b0), (.ref b1)] below meth c s₁ [] 0 0 := Stand.of_body Bd
 have e0 : s₁.heap = h0 := by rw [← hh, Bd.state]; rfl
 have N0 := Fr.nil n0
 let S0 : State → Prop := fun t => Steps p.tables e below (s₁.setTop (entryFrame m #[(.ref b0), (.ref b1)] 3)) t
 have p0 : ∀ t, St p e below s₁ (mkF m 0 #[.val (.ref b0), .val (.ref b1), .unset] []) t → S0 t := fun t k => castTop (ef7 m b0 b1) k
 have HE' := HE
 obtain ⟨Shigh, Scache, RC, ZC, TC⟩ := HE
 have p1 : ∀ t, St p e below s₁ (mkF m 1 #[.val (.ref b0), .val (.ref b1), .unset] [(.ref b1)]) t → S0 t := fun t k => p0 t (by
   show St p e below s₁ (mkF m 0 #[.val (.ref b0), .val (.ref b1), .unset] []) t
   refine XS.aloadN X0.here hx rfl (hb hby d6_0) rfl rfl ?_
   exact k)
 obtain ⟨T2, X2, e2, st2⟩ := instY X0 hx hZ hown (ww hw 35 rfl) e0 (Ins.self f3) (g := (mkF m 1 #[.val (.ref b0), .val (.ref b1), .unset] [(.ref b1)])) rfl rfl (hb hby d6_1)
 have p3 : ∀ t, St p e below T2 (mkF m 4 #[.val (.ref b0), .val (.ref b1), .unset] [(.int (1 : Int32))]) t → S0 t := fun t k => p1 t (st2 t k)
 have p4 : ∀ t, St p e below T2 (mkF m 8 #[.val (.ref b0), .val (.ref b1), .unset] [(.ref b1)]) t → S0 t := fun t k => p3 t (by
   show St p e below T2 (mkF m 4 #[.val (.ref b0), .val (.ref b1), .unset] [(.int (1 : Int32))]) t
   refine XS.ifNo X2.here hx rfl (hb hby d6_4) rfl ((if0 _ _).trans (feq (by decide : ¬ ((1 : Int32) = (0 : Int32)))).1) ?_
   show St p e below T2 (mkF m 7 #[.val (.ref b0), .val (.ref b1), .unset] []) t
   refine XS.aloadN X2.here hx rfl (hb hby d6_7) rfl rfl ?_
   exact k)
 obtain ⟨T5, X5, e5, st5⟩ := castY X2 hx hZ hown (ww hw 35 rfl) e2 (Ins.self f3) (g := (mkF m 8 #[.val (.ref b0), .val (.ref b1), .unset] [(.ref b1)])) rfl rfl (hb hby d6_8)
 have p6 : ∀ t, St p e below T5 (mkF m 11 #[.val (.ref b0), .val (.ref b1), .unset] [(.ref b1)]) t → S0 t := fun t k => p4 t (st5 t k)
 have p7 : ∀ t, St p e below T5 (mkF m 13 #[.val (.ref b0), .val (.ref b1), .val (.ref b1)] [(.ref b0)]) t → S0 t := fun t k => p6 t (by
   show St p e below T5 (mkF m 11 #[.val (.ref b0), .val (.ref b1), .unset] [(.ref b1)]) t
   refine XS.astoreN X5.here hx rfl (hb hby d6_11) rfl rfl (l' := #[.val (.ref b0), .val (.ref b1), .val (.ref b1)]) rfl ?_
   show St p e below T5 (mkF m 12 #[.val (.ref b0), .val (.ref b1), .val (.ref b1)] []) t
   refine XS.aloadN X5.here hx rfl (hb hby d6_12) rfl rfl ?_
   exact k)
 obtain ⟨T8, X8, e8, st8⟩ := getF X5 hx hZ hown (host := "") (Or.inl (ww hw 19 rfl)) Via.refl e5 f1 (g := (mkF m 13 #[.val (.ref b0), .val (.ref b1), .val (.ref b1)] [(.ref b0)])) rfl rfl (hb hby d6_13)
 have p9 : ∀ t, St p e below T8 (mkF m 16 #[.val (.ref b0), .val (.ref b1), .val (.ref b1)] [(.int i0)]) t → S0 t := fun t k => p7 t (st8 t k)
 have p10 : ∀ t, St p e below T8 (mkF m 17 #[.val (.ref b0), .val (.ref b1), .val (.ref b1)] [(.ref b1), (.int i0)]) t → S0 t := fun t k => p9 t (by
   show St p e below T8 (mkF m 16 #[.val (.ref b0), .val (.ref b1), .val (.ref b1)] [(.int i0)]) t
   refine XS.aloadN X8.here hx rfl (hb hby d6_16) rfl rfl ?_
   exact k)
 obtain ⟨T11, X11, e11, st11⟩ := getF X8 hx hZ hown (host := "") (Or.inl (ww hw 19 rfl)) Via.refl e8 f4 (g := (mkF m 17 #[.val (.ref b0), .val (.ref b1), .val (.ref b1)] [(.ref b1), (.int i0)])) rfl rfl (hb hby d6_17)
 have p12 : ∀ t, St p e below T11 (mkF m 20 #[.val (.ref b0), .val (.ref b1), .val (.ref b1)] [(.int i2), (.int i0)]) t → S0 t := fun t k => p10 t (st11 t k)
 by_cases g13 : i0 = i2
 ·
  have p14 : ∀ t, St p e below T11 (mkF m 24 #[.val (.ref b0), .val (.ref b1), .val (.ref b1)] [(.ref b0)]) t → S0 t := fun t k => p12 t (by
    show St p e below T11 (mkF m 20 #[.val (.ref b0), .val (.ref b1), .val (.ref b1)] [(.int i2), (.int i0)]) t
    refine XS.icmpNo X11.here hx rfl (hb hby d6_20) rfl (teq g13).2 ?_
    show St p e below T11 (mkF m 23 #[.val (.ref b0), .val (.ref b1), .val (.ref b1)] []) t
    refine XS.aloadN X11.here hx rfl (hb hby d6_23) rfl rfl ?_
    exact k)
  obtain ⟨T15, X15, e15, st15⟩ := getF X11 hx hZ hown (host := "") (Or.inl (ww hw 21 rfl)) Via.refl e11 f2 (g := (mkF m 24 #[.val (.ref b0), .val (.ref b1), .val (.ref b1)] [(.ref b0)])) rfl rfl (hb hby d6_24)
  have p16 : ∀ t, St p e below T15 (mkF m 27 #[.val (.ref b0), .val (.ref b1), .val (.ref b1)] [(.int i1)]) t → S0 t := fun t k => p14 t (st15 t k)
  have p17 : ∀ t, St p e below T15 (mkF m 28 #[.val (.ref b0), .val (.ref b1), .val (.ref b1)] [(.ref b1), (.int i1)]) t → S0 t := fun t k => p16 t (by
    show St p e below T15 (mkF m 27 #[.val (.ref b0), .val (.ref b1), .val (.ref b1)] [(.int i1)]) t
    refine XS.aloadN X15.here hx rfl (hb hby d6_27) rfl rfl ?_
    exact k)
  obtain ⟨T18, X18, e18, st18⟩ := getF X15 hx hZ hown (host := "") (Or.inl (ww hw 21 rfl)) Via.refl e15 f5 (g := (mkF m 28 #[.val (.ref b0), .val (.ref b1), .val (.ref b1)] [(.ref b1), (.int i1)])) rfl rfl (hb hby d6_28)
  have p19 : ∀ t, St p e below T18 (mkF m 31 #[.val (.ref b0), .val (.ref b1), .val (.ref b1)] [(.int i3), (.int i1)]) t → S0 t := fun t k => p17 t (st18 t k)
  by_cases g20 : i1 = i3
  ·
   have p21 : ∀ t, St p e below T18 (mkF m 39 #[.val (.ref b0), .val (.ref b1), .val (.ref b1)] [(.int (1 : Int32))]) t → S0 t := fun t k => p19 t (by
     show St p e below T18 (mkF m 31 #[.val (.ref b0), .val (.ref b1), .val (.ref b1)] [(.int i3), (.int i1)]) t
     refine XS.icmpNo X18.here hx rfl (hb hby d6_31) rfl (teq g20).2 ?_
     show St p e below T18 (mkF m 34 #[.val (.ref b0), .val (.ref b1), .val (.ref b1)] []) t
     refine XT.iconstV X18.here hx rfl (1 : Int32) (hb hby d6_34) (by decide) ?_
     show St p e below T18 (mkF m 35 #[.val (.ref b0), .val (.ref b1), .val (.ref b1)] [(.int (1 : Int32))]) t
     refine XS.goto X18.here hx rfl (pc0 := 35) (pc' := 39) rfl (hb hby d6_35) (by decide) (by decide) ?_
     exact k)
   obtain ⟨fs, hr, hrun, hended, hW, hsame⟩ := X18.leave (v := some (.int (1 : Int32))) (fun h => by rw [Bd.returns] at h; cases h)
   refine ⟨_, _, p21 _ ?_, hrun, hended, _, _, rfl, ?_, ⟨_, rfl⟩, hW, hsame.mono (by decide) (by decide)⟩
   · exact retOut X18 hx Bd.returns rfl (Or.inl ⟨rfl, by simp, _, rfl⟩) (hb hby d6_39) hr
   · show Q6_6 Z a_cache clC i0 i1 i2 i3 b0 b1 h0 n0 _ T18.heap _
     exact ⟨N0, e18, (Or.inl ⟨rfl, g13, g20⟩)⟩
  ·
   have p22 : ∀ t, St p e below T18 (mkF m 39 #[.val (.ref b0), .val (.ref b1), .val (.ref b1)] [(.int (0 : Int32))]) t → S0 t := fun t k => p19 t (by
     show St p e below T18 (mkF m 31 #[.val (.ref b0), .val (.ref b1), .val (.ref b1)] [(.int i3), (.int i1)]) t
     refine XS.icmpYes X18.here hx rfl (pc0 := 31) (pc' := 38) rfl (hb hby d6_31) rfl (feq g20).2 (by decide) (by decide) ?_
     show St p e below T18 (mkF m 38 #[.val (.ref b0), .val (.ref b1), .val (.ref b1)] []) t
     refine XT.iconstV X18.here hx rfl (0 : Int32) (hb hby d6_38) (by decide) ?_
     exact k)
   obtain ⟨fs, hr, hrun, hended, hW, hsame⟩ := X18.leave (v := some (.int (0 : Int32))) (fun h => by rw [Bd.returns] at h; cases h)
   refine ⟨_, _, p22 _ ?_, hrun, hended, _, _, rfl, ?_, ⟨_, rfl⟩, hW, hsame.mono (by decide) (by decide)⟩
   · exact retOut X18 hx Bd.returns rfl (Or.inl ⟨rfl, by simp, _, rfl⟩) (hb hby d6_39) hr
   · show Q6_6 Z a_cache clC i0 i1 i2 i3 b0 b1 h0 n0 _ T18.heap _
     exact ⟨N0, e18, (Or.inr (Or.inl ⟨rfl, g13, g20⟩))⟩
 ·
  have p23 : ∀ t, St p e below T11 (mkF m 39 #[.val (.ref b0), .val (.ref b1), .val (.ref b1)] [(.int (0 : Int32))]) t → S0 t := fun t k => p12 t (by
    show St p e below T11 (mkF m 20 #[.val (.ref b0), .val (.ref b1), .val (.ref b1)] [(.int i2), (.int i0)]) t
    refine XS.icmpYes X11.here hx rfl (pc0 := 20) (pc' := 38) rfl (hb hby d6_20) rfl (feq g13).2 (by decide) (by decide) ?_
    show St p e below T11 (mkF m 38 #[.val (.ref b0), .val (.ref b1), .val (.ref b1)] []) t
    refine XT.iconstV X11.here hx rfl (0 : Int32) (hb hby d6_38) (by decide) ?_
    exact k)
  obtain ⟨fs, hr, hrun, hended, hW, hsame⟩ := X11.leave (v := some (.int (0 : Int32))) (fun h => by rw [Bd.returns] at h; cases h)
  refine ⟨_, _, p23 _ ?_, hrun, hended, _, _, rfl, ?_, ⟨_, rfl⟩, hW, hsame.mono (by decide) (by decide)⟩
  · exact retOut X11 hx Bd.returns rfl (Or.inl ⟨rfl, by simp, _, rfl⟩) (hb hby d6_39) hr
  · show Q6_6 Z a_cache clC i0 i1 i2 i3 b0 b1 h0 n0 _ T11.heap _
    exact ⟨N0, e11, (Or.inr (Or.inr (⟨rfl, g13⟩)))⟩
theorem pd5 : parseMethodDescriptor "(Ljava/lang/Object;)Z" = some ⟨[(.object "java/lang/Object")], some .boolean⟩ := by decide +kernel
def Q6_7 (Z : State) (a_cache : Addr) (clC : Cell) (i0 : Int32) (i1 : Int32) (b0 : Addr) (h0 : Heap) (n0 : Nat) (v : Option Value) (h : Heap) (L : List Loc) : Prop := Fr n0 L ∧ h = h0 ∧ ((v = some (.int (1 : Int32))))
set_option maxRecDepth 65536 in
set_option maxHeartbeats 40000000 in
theorem rm6_7 (l : Launch) (Z : State) (a0 : Array Value) (hw : ∀ d ∈ tables_1, d.before a0 Z = true) (ws : List Jvm.Cond) (a_cache : Addr) (clC : Cell) (i0 : Int32) (i1 : Int32) (b0 : Addr) (h0 : Heap) (n0 : Nat) (O0 : Old Z n0 h0) (HE : Env1 Z a_cache clC) (g_b0 : n0 ≤ b0) (f0 : Exa Z h0 b0 "dev/ambrotype/Size") (f1 : Fld Z h0 b0 "dev/ambrotype/Size" "width" "I" (.int i0)) (f2 : Fld Z h0 b0 "dev/ambrotype/Size" "height" "I" (.int i1)) :
    MetFree l M6 (head1 (Jvm.Cond.code M6 prog_23_method_8_code 3 (some .boolean) :: ws) ({ frames := 0, cells := 0, slots := 0, locals := 0 } : Room)) (fun a U => a = #[(.ref b0), (.ref b0)] ∧ Z.Warmed39 U.vm ∧ U.heap = h0) (fun _ _ _ _ _ => True) (fun _ U o U' => ∃ v L, o = .returned v ∧ Q6_7 Z a_cache clC i0 i1 b0 h0 n0 v U'.heap L ∧ FrameEnd U o U' L ({ frames := 0, cells := 0, slots := 0, locals := 0 } : Room).cells ({ frames := 0, cells := 0, slots := 0, locals := 0 } : Room).slots) := by
 refine MetFree.of_bodySF (plainFor_of_name pn1) hisR ?_
 intro p e s m args below meth c s₁ Bd hml0 hP hK
 obtain ⟨rfl, hZ, hh⟩ := hP
 have hx := Bd.exec
 have hby := Bd.bytes
 have hml : c.maxLocals = 3 := hml0
 have hown : s.vm.findClass "dev/ambrotype/Size" = some m.cls := findClass_of_methodNamed Bd.named
 have hnm := (name_of_methodNamed Bd.named Bd.method).1
 have X0 : Stand p l e ({ frames := 0, cells := 0, slots := 0, locals := 0 } : Room) s m #[(.ref b0), (.ref b0)] below meth c s₁ [] 0 0 := Stand.of_body Bd
 have e0 : s₁.heap = h0 := by rw [← hh, Bd.state]; rfl
 have N0 := Fr.nil n0
 let S0 : State → Prop := fun t => Steps p.tables e below (s₁.setTop (entryFrame m #[(.ref b0), (.ref b0)] 3)) t
 have p0 : ∀ t, St p e below s₁ (mkF m 0 #[.val (.ref b0), .val (.ref b0), .unset] []) t → S0 t := fun t k => castTop (ef7 m b0 b0) k
 have HE' := HE
 obtain ⟨Shigh, Scache, RC, ZC, TC⟩ := HE
 have p1 : ∀ t, St p e below s₁ (mkF m 1 #[.val (.ref b0), .val (.ref b0), .unset] [(.ref b0)]) t → S0 t := fun t k => p0 t (by
   show St p e below s₁ (mkF m 0 #[.val (.ref b0), .val (.ref b0), .unset] []) t
   refine XS.aloadN X0.here hx rfl (hb hby d6_0) rfl rfl ?_
   exact k)
 obtain ⟨T2, X2, e2, st2⟩ := instY X0 hx hZ hown (ww hw 35 rfl) e0 (Ins.self f0) (g := (mkF m 1 #[.val (.ref b0), .val (.ref b0), .unset] [(.ref b0)])) rfl rfl (hb hby d6_1)
 have p3 : ∀ t, St p e below T2 (mkF m 4 #[.val (.ref b0), .val (.ref b0), .unset] [(.int (1 : Int32))]) t → S0 t := fun t k => p1 t (st2 t k)
 have p4 : ∀ t, St p e below T2 (mkF m 8 #[.val (.ref b0), .val (.ref b0), .unset] [(.ref b0)]) t → S0 t := fun t k => p3 t (by
   show St p e below T2 (mkF m 4 #[.val (.ref b0), .val (.ref b0), .unset] [(.int (1 : Int32))]) t
   refine XS.ifNo X2.here hx rfl (hb hby d6_4) rfl ((if0 _ _).trans (feq (by decide : ¬ ((1 : Int32) = (0 : Int32)))).1) ?_
   show St p e below T2 (mkF m 7 #[.val (.ref b0), .val (.ref b0), .unset] []) t
   refine XS.aloadN X2.here hx rfl (hb hby d6_7) rfl rfl ?_
   exact k)
 obtain ⟨T5, X5, e5, st5⟩ := castY X2 hx hZ hown (ww hw 35 rfl) e2 (Ins.self f0) (g := (mkF m 8 #[.val (.ref b0), .val (.ref b0), .unset] [(.ref b0)])) rfl rfl (hb hby d6_8)
 have p6 : ∀ t, St p e below T5 (mkF m 11 #[.val (.ref b0), .val (.ref b0), .unset] [(.ref b0)]) t → S0 t := fun t k => p4 t (st5 t k)
 have p7 : ∀ t, St p e below T5 (mkF m 13 #[.val (.ref b0), .val (.ref b0), .val (.ref b0)] [(.ref b0)]) t → S0 t := fun t k => p6 t (by
   show St p e below T5 (mkF m 11 #[.val (.ref b0), .val (.ref b0), .unset] [(.ref b0)]) t
   refine XS.astoreN X5.here hx rfl (hb hby d6_11) rfl rfl (l' := #[.val (.ref b0), .val (.ref b0), .val (.ref b0)]) rfl ?_
   show St p e below T5 (mkF m 12 #[.val (.ref b0), .val (.ref b0), .val (.ref b0)] []) t
   refine XS.aloadN X5.here hx rfl (hb hby d6_12) rfl rfl ?_
   exact k)
 obtain ⟨T8, X8, e8, st8⟩ := getF X5 hx hZ hown (host := "") (Or.inl (ww hw 19 rfl)) Via.refl e5 f1 (g := (mkF m 13 #[.val (.ref b0), .val (.ref b0), .val (.ref b0)] [(.ref b0)])) rfl rfl (hb hby d6_13)
 have p9 : ∀ t, St p e below T8 (mkF m 16 #[.val (.ref b0), .val (.ref b0), .val (.ref b0)] [(.int i0)]) t → S0 t := fun t k => p7 t (st8 t k)
 have p10 : ∀ t, St p e below T8 (mkF m 17 #[.val (.ref b0), .val (.ref b0), .val (.ref b0)] [(.ref b0), (.int i0)]) t → S0 t := fun t k => p9 t (by
   show St p e below T8 (mkF m 16 #[.val (.ref b0), .val (.ref b0), .val (.ref b0)] [(.int i0)]) t
   refine XS.aloadN X8.here hx rfl (hb hby d6_16) rfl rfl ?_
   exact k)
 obtain ⟨T11, X11, e11, st11⟩ := getF X8 hx hZ hown (host := "") (Or.inl (ww hw 19 rfl)) Via.refl e8 f1 (g := (mkF m 17 #[.val (.ref b0), .val (.ref b0), .val (.ref b0)] [(.ref b0), (.int i0)])) rfl rfl (hb hby d6_17)
 have p12 : ∀ t, St p e below T11 (mkF m 20 #[.val (.ref b0), .val (.ref b0), .val (.ref b0)] [(.int i0), (.int i0)]) t → S0 t := fun t k => p10 t (st11 t k)
 have p13 : ∀ t, St p e below T11 (mkF m 24 #[.val (.ref b0), .val (.ref b0), .val (.ref b0)] [(.ref b0)]) t → S0 t := fun t k => p12 t (by
   show St p e below T11 (mkF m 20 #[.val (.ref b0), .val (.ref b0), .val (.ref b0)] [(.int i0), (.int i0)]) t
   refine XS.icmpNo X11.here hx rfl (hb hby d6_20) rfl (teq (rfl : i0 = i0)).2 ?_
   show St p e below T11 (mkF m 23 #[.val (.ref b0), .val (.ref b0), .val (.ref b0)] []) t
   refine XS.aloadN X11.here hx rfl (hb hby d6_23) rfl rfl ?_
   exact k)
 obtain ⟨T14, X14, e14, st14⟩ := getF X11 hx hZ hown (host := "") (Or.inl (ww hw 21 rfl)) Via.refl e11 f2 (g := (mkF m 24 #[.val (.ref b0), .val (.ref b0), .val (.ref b0)] [(.ref b0)])) rfl rfl (hb hby d6_24)
 have p15 : ∀ t, St p e below T14 (mkF m 27 #[.val (.ref b0), .val (.ref b0), .val (.ref b0)] [(.int i1)]) t → S0 t := fun t k => p13 t (st14 t k)
 have p16 : ∀ t, St p e below T14 (mkF m 28 #[.val (.ref b0), .val (.ref b0), .val (.ref b0)] [(.ref b0), (.int i1)]) t → S0 t := fun t k => p15 t (by
   show St p e below T14 (mkF m 27 #[.val (.ref b0), .val (.ref b0), .val (.ref b0)] [(.int i1)]) t
   refine XS.aloadN X14.here hx rfl (hb hby d6_27) rfl rfl ?_
   exact k)
 obtain ⟨T17, X17, e17, st17⟩ := getF X14 hx hZ hown (host := "") (Or.inl (ww hw 21 rfl)) Via.refl e14 f2 (g := (mkF m 28 #[.val (.ref b0), .val (.ref b0), .val (.ref b0)] [(.ref b0), (.int i1)])) rfl rfl (hb hby d6_28)
 have p18 : ∀ t, St p e below T17 (mkF m 31 #[.val (.ref b0), .val (.ref b0), .val (.ref b0)] [(.int i1), (.int i1)]) t → S0 t := fun t k => p16 t (st17 t k)
 have p19 : ∀ t, St p e below T17 (mkF m 39 #[.val (.ref b0), .val (.ref b0), .val (.ref b0)] [(.int (1 : Int32))]) t → S0 t := fun t k => p18 t (by
   show St p e below T17 (mkF m 31 #[.val (.ref b0), .val (.ref b0), .val (.ref b0)] [(.int i1), (.int i1)]) t
   refine XS.icmpNo X17.here hx rfl (hb hby d6_31) rfl (teq (rfl : i1 = i1)).2 ?_
   show St p e below T17 (mkF m 34 #[.val (.ref b0), .val (.ref b0), .val (.ref b0)] []) t
   refine XT.iconstV X17.here hx rfl (1 : Int32) (hb hby d6_34) (by decide) ?_
   show St p e below T17 (mkF m 35 #[.val (.ref b0), .val (.ref b0), .val (.ref b0)] [(.int (1 : Int32))]) t
   refine XS.goto X17.here hx rfl (pc0 := 35) (pc' := 39) rfl (hb hby d6_35) (by decide) (by decide) ?_
   exact k)
 obtain ⟨fs, hr, hrun, hended, hW, hsame⟩ := X17.leave (v := some (.int (1 : Int32))) (fun h => by rw [Bd.returns] at h; cases h)
 refine ⟨_, _, p19 _ ?_, hrun, hended, _, _, rfl, ?_, ⟨_, rfl⟩, hW, hsame.mono (by decide) (by decide)⟩
 · exact retOut X17 hx Bd.returns rfl (Or.inl ⟨rfl, by simp, _, rfl⟩) (hb hby d6_39) hr
 · show Q6_7 Z a_cache clC i0 i1 b0 h0 n0 _ T17.heap _
   exact ⟨N0, e17, rfl⟩
theorem ef8 (m : MethodId) (x0 : Addr) : entryFrame m #[(.ref x0), .null] 3 = mkF m 0 #[.val (.ref x0), .val .null, .unset] [] := by first | (simp [entryFrame, mkF, argsToLocals, Value.category]; done) | rfl
def Q6_8 (Z : State) (a_cache : Addr) (clC : Cell) (i0 : Int32) (i1 : Int32) (b0 : Addr) (h0 : Heap) (n0 : Nat) (v : Option Value) (h : Heap) (L : List Loc) : Prop := Fr n0 L ∧ h = h0 ∧ ((v = some (.int (0 : Int32))))
set_option maxRecDepth 65536 in
set_option maxHeartbeats 40000000 in
theorem rm6_8 (l : Launch) (Z : State) (a0 : Array Value) (hw : ∀ d ∈ tables_1, d.before a0 Z = true) (ws : List Jvm.Cond) (a_cache : Addr) (clC : Cell) (i0 : Int32) (i1 : Int32) (b0 : Addr) (h0 : Heap) (n0 : Nat) (O0 : Old Z n0 h0) (HE : Env1 Z a_cache clC) (g_b0 : n0 ≤ b0) (f0 : Exa Z h0 b0 "dev/ambrotype/Size") (f1 : Fld Z h0 b0 "dev/ambrotype/Size" "width" "I" (.int i0)) (f2 : Fld Z h0 b0 "dev/ambrotype/Size" "height" "I" (.int i1)) :
    MetFree l M6 (head1 (Jvm.Cond.code M6 prog_23_method_8_code 3 (some .boolean) :: ws) ({ frames := 0, cells := 0, slots := 0, locals := 0 } : Room)) (fun a U => a = #[(.ref b0), .null] ∧ Z.Warmed39 U.vm ∧ U.heap = h0) (fun _ _ _ _ _ => True) (fun _ U o U' => ∃ v L, o = .returned v ∧ Q6_8 Z a_cache clC i0 i1 b0 h0 n0 v U'.heap L ∧ FrameEnd U o U' L ({ frames := 0, cells := 0, slots := 0, locals := 0 } : Room).cells ({ frames := 0, cells := 0, slots := 0, locals := 0 } : Room).slots) := by
 refine MetFree.of_bodySF (plainFor_of_name pn1) hisR ?_
 intro p e s m args below meth c s₁ Bd hml0 hP hK
 obtain ⟨rfl, hZ, hh⟩ := hP
 have hx := Bd.exec
 have hby := Bd.bytes
 have hml : c.maxLocals = 3 := hml0
 have hown : s.vm.findClass "dev/ambrotype/Size" = some m.cls := findClass_of_methodNamed Bd.named
 have hnm := (name_of_methodNamed Bd.named Bd.method).1
 have X0 : Stand p l e ({ frames := 0, cells := 0, slots := 0, locals := 0 } : Room) s m #[(.ref b0), .null] below meth c s₁ [] 0 0 := Stand.of_body Bd
 have e0 : s₁.heap = h0 := by rw [← hh, Bd.state]; rfl
 have N0 := Fr.nil n0
 let S0 : State → Prop := fun t => Steps p.tables e below (s₁.setTop (entryFrame m #[(.ref b0), .null] 3)) t
 have p0 : ∀ t, St p e below s₁ (mkF m 0 #[.val (.ref b0), .val .null, .unset] []) t → S0 t := fun t k => castTop (ef8 m b0) k
 have HE' := HE
 obtain ⟨Shigh, Scache, RC, ZC, TC⟩ := HE
 have p1 : ∀ t, St p e below s₁ (mkF m 1 #[.val (.ref b0), .val .null, .unset] [.null]) t → S0 t := fun t k => p0 t (by
   show St p e below s₁ (mkF m 0 #[.val (.ref b0), .val .null, .unset] []) t
   refine XS.aloadN X0.here hx rfl (hb hby d6_0) rfl rfl ?_
   exact k)
 have p2 : ∀ t, St p e below s₁ (mkF m 4 #[.val (.ref b0), .val .null, .unset] [(.int (0 : Int32))]) t → S0 t := fun t k => p1 t (X0.instanceofNull hx (g := (mkF m 1 #[.val (.ref b0), .val .null, .unset] [.null])) rfl rfl (hb hby d6_1) t k)
 have p3 : ∀ t, St p e below s₁ (mkF m 39 #[.val (.ref b0), .val .null, .unset] [(.int (0 : Int32))]) t → S0 t := fun t k => p2 t (by
   show St p e below s₁ (mkF m 4 #[.val (.ref b0), .val .null, .unset] [(.int (0 : Int32))]) t
   refine XS.ifYes X0.here hx rfl (pc0 := 4) (pc' := 38) rfl (hb hby d6_4) rfl ((if0 _ _).trans (teq (by decide : (0 : Int32) = (0 : Int32))).1) (by decide) (by decide) ?_
   show St p e below s₁ (mkF m 38 #[.val (.ref b0), .val .null, .unset] []) t
   refine XT.iconstV X0.here hx rfl (0 : Int32) (hb hby d6_38) (by decide) ?_
   exact k)
 obtain ⟨fs, hr, hrun, hended, hW, hsame⟩ := X0.leave (v := some (.int (0 : Int32))) (fun h => by rw [Bd.returns] at h; cases h)
 refine ⟨_, _, p3 _ ?_, hrun, hended, _, _, rfl, ?_, ⟨_, rfl⟩, hW, hsame.mono (by decide) (by decide)⟩
 · exact retOut X0 hx Bd.returns rfl (Or.inl ⟨rfl, by simp, _, rfl⟩) (hb hby d6_39) hr
 · show Q6_8 Z a_cache clC i0 i1 b0 h0 n0 _ s₁.heap _
   exact ⟨N0, e0, rfl⟩
def Q6_9 (Z : State) (a_cache : Addr) (clC : Cell) (i0 : Int32) (i1 : Int32) (b0 : Addr) (b1 : Addr) (h0 : Heap) (n0 : Nat) (v : Option Value) (h : Heap) (L : List Loc) : Prop := Fr n0 L ∧ h = h0 ∧ ((v = some (.int (0 : Int32))))
set_option maxRecDepth 65536 in
set_option maxHeartbeats 40000000 in
theorem rm6_9 (l : Launch) (Z : State) (a0 : Array Value) (hw : ∀ d ∈ tables_1, d.before a0 Z = true) (ws : List Jvm.Cond) (a_cache : Addr) (clC : Cell) (i0 : Int32) (i1 : Int32) (b0 : Addr) (b1 : Addr) (h0 : Heap) (n0 : Nat) (O0 : Old Z n0 h0) (HE : Env1 Z a_cache clC) (g_b0 : n0 ≤ b0) (ne_b0_b1 : b0 ≠ b1) (f0 : Exa Z h0 b0 "dev/ambrotype/Size") (f1 : Fld Z h0 b0 "dev/ambrotype/Size" "width" "I" (.int i0)) (f2 : Fld Z h0 b0 "dev/ambrotype/Size" "height" "I" (.int i1)) (f3 : Exa Z h0 b1 "java/lang/Integer") :
    MetFree l M6 (head1 (Jvm.Cond.code M6 prog_23_method_8_code 3 (some .boolean) :: ws) ({ frames := 0, cells := 0, slots := 0, locals := 0 } : Room)) (fun a U => a = #[(.ref b0), (.ref b1)] ∧ Z.Warmed39 U.vm ∧ U.heap = h0) (fun _ _ _ _ _ => True) (fun _ U o U' => ∃ v L, o = .returned v ∧ Q6_9 Z a_cache clC i0 i1 b0 b1 h0 n0 v U'.heap L ∧ FrameEnd U o U' L ({ frames := 0, cells := 0, slots := 0, locals := 0 } : Room).cells ({ frames := 0, cells := 0, slots := 0, locals := 0 } : Room).slots) := by
 refine MetFree.of_bodySF (plainFor_of_name pn1) hisR ?_
 intro p e s m args below meth c s₁ Bd hml0 hP hK
 obtain ⟨rfl, hZ, hh⟩ := hP
 have hx := Bd.exec
 have hby := Bd.bytes
 have hml : c.maxLocals = 3 := hml0
 have hown : s.vm.findClass "dev/ambrotype/Size" = some m.cls := findClass_of_methodNamed Bd.named
 have hnm := (name_of_methodNamed Bd.named Bd.method).1
 have X0 : Stand p l e ({ frames := 0, cells := 0, slots := 0, locals := 0 } : Room) s m #[(.ref b0), (.ref b1)] below meth c s₁ [] 0 0 := Stand.of_body Bd
 have e0 : s₁.heap = h0 := by rw [← hh, Bd.state]; rfl
 have N0 := Fr.nil n0
 let S0 : State → Prop := fun t => Steps p.tables e below (s₁.setTop (entryFrame m #[(.ref b0), (.ref b1)] 3)) t
 have p0 : ∀ t, St p e below s₁ (mkF m 0 #[.val (.ref b0), .val (.ref b1), .unset] []) t → S0 t := fun t k => castTop (ef7 m b0 b1) k
 have HE' := HE
 obtain ⟨Shigh, Scache, RC, ZC, TC⟩ := HE
 have p1 : ∀ t, St p e below s₁ (mkF m 1 #[.val (.ref b0), .val (.ref b1), .unset] [(.ref b1)]) t → S0 t := fun t k => p0 t (by
   show St p e below s₁ (mkF m 0 #[.val (.ref b0), .val (.ref b1), .unset] []) t
   refine XS.aloadN X0.here hx rfl (hb hby d6_0) rfl rfl ?_
   exact k)
 obtain ⟨T2, X2, e2, st2⟩ := instNo X0 hx hZ hown (ww hw 35 rfl) e0 f3 (own_ns_no (ww hw 37 rfl) (ww hw 6 rfl) (NS.step (ww hw 37 rfl) (NS.step (ww hw 38 rfl) (own_ns_root (ww hw 39 rfl) (ww hw 6 rfl) (by decide)) (by decide)) (by decide)) (by decide)) (g := (mkF m 1 #[.val (.ref b0), .val (.ref b1), .unset] [(.ref b1)])) rfl rfl (hb hby d6_1)
 have p3 : ∀ t, St p e below T2 (mkF m 4 #[.val (.ref b0), .val (.ref b1), .unset] [(.int (0 : Int32))]) t → S0 t := fun t k => p1 t (st2 t k)
 have p4 : ∀ t, St p e below T2 (mkF m 39 #[.val (.ref b0), .val (.ref b1), .unset] [(.int (0 : Int32))]) t → S0 t := fun t k => p3 t (by
   show St p e below T2 (mkF m 4 #[.val (.ref b0), .val (.ref b1), .unset] [(.int (0 : Int32))]) t
   refine XS.ifYes X2.here hx rfl (pc0 := 4) (pc' := 38) rfl (hb hby d6_4) rfl ((if0 _ _).trans (teq (by decide : (0 : Int32) = (0 : Int32))).1) (by decide) (by decide) ?_
   show St p e below T2 (mkF m 38 #[.val (.ref b0), .val (.ref b1), .unset] []) t
   refine XT.iconstV X2.here hx rfl (0 : Int32) (hb hby d6_38) (by decide) ?_
   exact k)
 obtain ⟨fs, hr, hrun, hended, hW, hsame⟩ := X2.leave (v := some (.int (0 : Int32))) (fun h => by rw [Bd.returns] at h; cases h)
 refine ⟨_, _, p4 _ ?_, hrun, hended, _, _, rfl, ?_, ⟨_, rfl⟩, hW, hsame.mono (by decide) (by decide)⟩
 · exact retOut X2 hx Bd.returns rfl (Or.inl ⟨rfl, by simp, _, rfl⟩) (hb hby d6_39) hr
 · show Q6_9 Z a_cache clC i0 i1 b0 b1 h0 n0 _ T2.heap _
   exact ⟨N0, e2, rfl⟩
def Q0 (Z : State) (a_cache : Addr) (clC : Cell) (i0 : Int32) (i1 : Int32) (i2 : Int32) (i3 : Int32) (i4 : Int32) (h0 : Heap) (n0 : Nat) (v : Option Value) (h : Heap) (L : List Loc) : Prop := v = some (.int 1) ∧ Fr n0 L
set_option maxRecDepth 65536 in
set_option maxHeartbeats 40000000 in
theorem rm0 (l : Launch) (Z : State) (a0 : Array Value) (hw : ∀ d ∈ tables_1, d.before a0 Z = true) (ws : List Jvm.Cond) (a_cache : Addr) (clC : Cell) (i0 : Int32) (i1 : Int32) (i2 : Int32) (i3 : Int32) (i4 : Int32) (h0 : Heap) (n0 : Nat) (O0 : Old Z n0 h0) (HE : Env1 Z a_cache clC)  :
    MetFree l x (head1 (Jvm.Cond.code x code maxLocals ret :: ws) room_1) (fun a U => a = #[(.int i0), (.int i1), (.int i2), (.int i3), (.int i4)] ∧ Z.Warmed39 U.vm ∧ U.heap = h0) (fun _ _ _ _ _ => True) (fun _ U o U' => ∃ v L, o = .returned v ∧ Q0 Z a_cache clC i0 i1 i2 i3 i4 h0 n0 v U'.heap L ∧ FrameEnd U o U' L 16 128) := by
 refine MetFree.of_bodySF (plainFor_of_name pn0) hisR ?_
 intro p e s m args below meth c s₁ Bd hml0 hP hK
 obtain ⟨rfl, hZ, hh⟩ := hP
 have hx := Bd.exec
 have hby := Bd.bytes
 have hml : c.maxLocals = 16 := hml0
 have hown : s.vm.findClass "dev/ambrotype/SizeEqualsPinLaw" = some m.cls := findClass_of_methodNamed Bd.named
 have hnm := (name_of_methodNamed Bd.named Bd.method).1
 have X0 : Stand p l e room_1 s m #[(.int i0), (.int i1), (.int i2), (.int i3), (.int i4)] below meth c s₁ [] 0 0 := Stand.of_body Bd
 have e0 : s₁.heap = h0 := by rw [← hh, Bd.state]; rfl
 have N0 := Fr.nil n0
 let S0 : State → Prop := fun t => Steps p.tables e below (s₁.setTop (entryFrame m #[(.int i0), (.int i1), (.int i2), (.int i3), (.int i4)] maxLocals)) t
 let Ls1 : Array Slot := #[.val (.int i0), .val (.int i1), .val (.int i2), .val (.int i3), .val (.int i4), .unset, .unset, .unset, .unset, .unset, .unset, .unset, .unset, .unset, .unset, .unset]
 have p0 : ∀ t, St p e below s₁ (mkF m 0 Ls1 []) t → S0 t := fun t k => castTop (ef0 m i0 i1 i2 i3 i4) k
 have HE' := HE
 obtain ⟨Shigh, Scache, RC, ZC, TC⟩ := HE
 obtain ⟨w2, Tj3, Lj3, Xj3, ej3, Nj3, g4, pj3⟩ : ∃ (w2 : Int32) (Tj3 : State) (Lj3 : List Loc), Stand p l e room_1 s m #[(.int i0), (.int i1), (.int i2), (.int i3), (.int i4)] below meth c Tj3 Lj3 0 0 ∧ Tj3.heap = h0 ∧ Fr n0 Lj3 ∧ ¬ (w2 < (1 : Int32)) ∧ ∀ t, St p e below Tj3 (mkF m 6 #[.val (.int i0), .val (.int i1), .val (.int i2), .val (.int i3), .val (.int i4), .val (.int w2), .unset, .unset, .unset, .unset, .unset, .unset, .unset, .unset, .unset, .unset] []) t → S0 t := by
  have p5 : ∀ t, St p e below s₁ (mkF m 1 Ls1 [(.int i0)]) t → S0 t := fun t k => p0 t (by
    show St p e below s₁ (mkF m 0 Ls1 []) t
    refine XS.iloadN X0.here hx rfl (hb hby at_0) rfl ?_
    exact k)
  obtain ⟨_, _, ⟨Tc6, Lc6, kc6, nc6⟩, -, Xc6, ⟨Lcc6, hQc6, lc6, yc6, zc6⟩, stc6⟩ := Jvm.LawKit.callS X0 hx (y := M0) hown (mvT hZ (ww hw 0 rfl)) (mvT hZ (ww hw 1 rfl)) (mvT hZ (ww hw 2 rfl)) (mvT hZ (ww hw 3 rfl)) (by decide) (backOf (W := 0) (rm1_0 l Z a0 hw [] a_cache clC i0 h0 n0 O0 HE' ) hZ (ww hw 3 rfl) (ww hw 2 rfl) (by decide) (by decide)) (g := (mkF m 1 Ls1 [(.int i0)])) rfl (by rw [hml]; rfl) (argsL := [(.int i0)]) (rest := []) (lenOf pd0 rfl) rfl (by show 2 * 0 + _ ≤ _; exact Nat.le_of_eq rfl) (hb hby at_1) (fun _ _ => ⟨rfl, e0, (by decide : 0 + 0 ≤ _), (by decide : 0 + 0 ≤ _)⟩)
  dsimp only [Pt.U, Pt.locs, Pt.cells, Pt.slots] at Xc6 lc6 yc6 zc6 stc6 hQc6
  subst lc6 yc6 zc6
  obtain ⟨Nqc6, ec6, hAc6⟩ := hQc6
  have Nc6 := Fr.app N0 Nqc6
  rcases hAc6 with ⟨rfl, g7⟩ | ⟨rfl, g8⟩
  ·
   have p9 : ∀ t, St p e below Tc6 (mkF m 4 Ls1 [(.int (1 : Int32))]) t → S0 t := fun t k => p5 t (stc6 t k)
   let Ls10 : Array Slot := #[.val (.int i0), .val (.int i1), .val (.int i2), .val (.int i3), .val (.int i4), .val (.int (1 : Int32)), .unset, .unset, .unset, .unset, .unset, .unset, .unset, .unset, .unset, .unset]
   have p11 : ∀ t, St p e below Tc6 (mkF m 6 Ls10 []) t → S0 t := fun t k => p9 t (by
     show St p e below Tc6 (mkF m 4 Ls1 [(.int (1 : Int32))]) t
     refine XS.istore Xc6.here hx rfl (hb hby at_4) rfl (l' := Ls10) rfl ?_
     exact k)
   exact ⟨(1 : Int32), _, _, Xc6, ec6, Nc6, (by decide : ¬ ((1 : Int32) < (1 : Int32))), p11⟩
  ·
   have p12 : ∀ t, St p e below Tc6 (mkF m 4 Ls1 [(.int (i0 &&& (2147483647 : Int32)))]) t → S0 t := fun t k => p5 t (stc6 t k)
   let Ls13 : Array Slot := #[.val (.int i0), .val (.int i1), .val (.int i2), .val (.int i3), .val (.int i4), .val (.int (i0 &&& (2147483647 : Int32))), .unset, .unset, .unset, .unset, .unset, .unset, .unset, .unset, .unset, .unset]
   have p14 : ∀ t, St p e below Tc6 (mkF m 6 Ls13 []) t → S0 t := fun t k => p12 t (by
     show St p e below Tc6 (mkF m 4 Ls1 [(.int (i0 &&& (2147483647 : Int32)))]) t
     refine XS.istore Xc6.here hx rfl (hb hby at_4) rfl (l' := Ls13) rfl ?_
     exact k)
   have q15 : ¬ ((i0 &&& (2147483647 : Int32)) < (1 : Int32)) := by
    intro r16
    have q1_ := neI g8
    have q2_ := ltI r16
    have l3_ := rng32 i0
    have l4_ := lI2147483647
    have l5_ : (i0 &&& (2147483647 : Int32)).toInt = i0.toInt % 2147483648 := c_mask i0 (2147483647 : Int32) 31 (by decide) (by decide)
    have l6_ := lI0
    have l7_ := lI1
    omega
   exact ⟨(i0 &&& (2147483647 : Int32)), _, _, Xc6, ec6, Nc6, q15, p14⟩
 obtain ⟨w17, Tj18, Lj18, Xj18, ej18, Nj18, g19, pj18⟩ : ∃ (w17 : Int32) (Tj18 : State) (Lj18 : List Loc), Stand p l e room_1 s m #[(.int i0), (.int i1), (.int i2), (.int i3), (.int i4)] below meth c Tj18 Lj18 0 0 ∧ Tj18.heap = h0 ∧ Fr n0 Lj18 ∧ ¬ (w17 < (1 : Int32)) ∧ ∀ t, St p e below Tj18 (mkF m 12 #[.val (.int i0), .val (.int i1), .val (.int i2), .val (.int i3), .val (.int i4), .val (.int w2), .val (.int w17), .unset, .unset, .unset, .unset, .unset, .unset, .unset, .unset, .unset] []) t → S0 t := by
  let Ls20 : Array Slot := #[.val (.int i0), .val (.int i1), .val (.int i2), .val (.int i3), .val (.int i4), .val (.int w2), .unset, .unset, .unset, .unset, .unset, .unset, .unset, .unset, .unset, .unset]
  have p21 : ∀ t, St p e below Tj3 (mkF m 7 Ls20 [(.int i1)]) t → S0 t := fun t k => pj3 t (by
    show St p e below Tj3 (mkF m 6 Ls20 []) t
    refine XS.iloadN Xj3.here hx rfl (hb hby at_6) rfl ?_
    exact k)
  obtain ⟨_, _, ⟨Tc22, Lc22, kc22, nc22⟩, -, Xc22, ⟨Lcc22, hQc22, lc22, yc22, zc22⟩, stc22⟩ := Jvm.LawKit.callS Xj3 hx (y := M0) hown (mvT hZ (ww hw 0 rfl)) (mvT hZ (ww hw 1 rfl)) (mvT hZ (ww hw 2 rfl)) (mvT hZ (ww hw 3 rfl)) (by decide) (backOf (W := 0) (rm1_0 l Z a0 hw [] a_cache clC i1 h0 n0 O0 HE' ) hZ (ww hw 3 rfl) (ww hw 2 rfl) (by decide) (by decide)) (g := (mkF m 7 Ls20 [(.int i1)])) rfl (by rw [hml]; rfl) (argsL := [(.int i1)]) (rest := []) (lenOf pd0 rfl) rfl (by show 2 * 0 + _ ≤ _; exact Nat.le_of_eq rfl) (hb hby at_7) (fun _ _ => ⟨rfl, ej3, (by decide : 0 + 0 ≤ _), (by decide : 0 + 0 ≤ _)⟩)
  dsimp only [Pt.U, Pt.locs, Pt.cells, Pt.slots] at Xc22 lc22 yc22 zc22 stc22 hQc22
  subst lc22 yc22 zc22
  obtain ⟨Nqc22, ec22, hAc22⟩ := hQc22
  have Nc22 := Fr.app Nj3 Nqc22
  rcases hAc22 with ⟨rfl, g23⟩ | ⟨rfl, g24⟩
  ·
   have p25 : ∀ t, St p e below Tc22 (mkF m 10 Ls20 [(.int (1 : Int32))]) t → S0 t := fun t k => p21 t (stc22 t k)
   let Ls26 : Array Slot := #[.val (.int i0), .val (.int i1), .val (.int i2), .val (.int i3), .val (.int i4), .val (.int w2), .val (.int (1 : Int32)), .unset, .unset, .unset, .unset, .unset, .unset, .unset, .unset, .unset]
   have p27 : ∀ t, St p e below Tc22 (mkF m 12 Ls26 []) t → S0 t := fun t k => p25 t (by
     show St p e below Tc22 (mkF m 10 Ls20 [(.int (1 : Int32))]) t
     refine XS.istore Xc22.here hx rfl (hb hby at_10) rfl (l' := Ls26) rfl ?_
     exact k)
   exact ⟨(1 : Int32), _, _, Xc22, ec22, Nc22, (by decide : ¬ ((1 : Int32) < (1 : Int32))), p27⟩
  ·
   have p28 : ∀ t, St p e below Tc22 (mkF m 10 Ls20 [(.int (i1 &&& (2147483647 : Int32)))]) t → S0 t := fun t k => p21 t (stc22 t k)
   let Ls29 : Array Slot := #[.val (.int i0), .val (.int i1), .val (.int i2), .val (.int i3), .val (.int i4), .val (.int w2), .val (.int (i1 &&& (2147483647 : Int32))), .unset, .unset, .unset, .unset, .unset, .unset, .unset, .unset, .unset]
   have p30 : ∀ t, St p e below Tc22 (mkF m 12 Ls29 []) t → S0 t := fun t k => p28 t (by
     show St p e below Tc22 (mkF m 10 Ls20 [(.int (i1 &&& (2147483647 : Int32)))]) t
     refine XS.istore Xc22.here hx rfl (hb hby at_10) rfl (l' := Ls29) rfl ?_
     exact k)
   have q31 : ¬ ((i1 &&& (2147483647 : Int32)) < (1 : Int32)) := by
    intro r32
    have q1_ := neI g24
    have q2_ := ltI r32
    have l3_ := rng32 i1
    have l4_ := lI2147483647
    have l5_ : (i1 &&& (2147483647 : Int32)).toInt = i1.toInt % 2147483648 := c_mask i1 (2147483647 : Int32) 31 (by decide) (by decide)
    have l6_ := lI0
    have l7_ := lI1
    omega
   exact ⟨(i1 &&& (2147483647 : Int32)), _, _, Xc22, ec22, Nc22, q31, p30⟩
 obtain ⟨w33, Tj34, Lj34, Xj34, ej34, Nj34, pj34⟩ : ∃ (w33 : Int32) (Tj34 : State) (Lj34 : List Loc), Stand p l e room_1 s m #[(.int i0), (.int i1), (.int i2), (.int i3), (.int i4)] below meth c Tj34 Lj34 0 0 ∧ Tj34.heap = h0 ∧ Fr n0 Lj34 ∧ ∀ t, St p e below Tj34 (mkF m 28 #[.val (.int i0), .val (.int i1), .val (.int i2), .val (.int i3), .val (.int i4), .val (.int w2), .val (.int w17), .val (.int w33), .unset, .unset, .unset, .unset, .unset, .unset, .unset, .unset] []) t → S0 t := by
  let Ls35 : Array Slot := #[.val (.int i0), .val (.int i1), .val (.int i2), .val (.int i3), .val (.int i4), .val (.int w2), .val (.int w17), .unset, .unset, .unset, .unset, .unset, .unset, .unset, .unset, .unset]
  have p36 : ∀ t, St p e below Tj18 (mkF m 18 Ls35 [(.int ((i4 >>> ((2 : Int32) &&& 31)) &&& (1 : Int32)))]) t → S0 t := fun t k => pj18 t (by
    show St p e below Tj18 (mkF m 12 Ls35 []) t
    refine XS.iload Xj18.here hx rfl (hb hby at_12) rfl ?_
    show St p e below Tj18 (mkF m 14 Ls35 [(.int i4)]) t
    refine XT.iconstV Xj18.here hx rfl (2 : Int32) (hb hby at_14) (by decide) ?_
    show St p e below Tj18 (mkF m 15 Ls35 [(.int (2 : Int32)), (.int i4)]) t
    refine XS.ishr Xj18.here hx rfl (hb hby at_15) rfl ?_
    show St p e below Tj18 (mkF m 16 Ls35 [(.int (i4 >>> ((2 : Int32) &&& 31)))]) t
    refine XT.iconstV Xj18.here hx rfl (1 : Int32) (hb hby at_16) (by decide) ?_
    show St p e below Tj18 (mkF m 17 Ls35 [(.int (1 : Int32)), (.int (i4 >>> ((2 : Int32) &&& 31)))]) t
    refine XS.iand Xj18.here hx rfl (hb hby at_17) rfl ?_
    exact k)
  by_cases g37 : ((i4 >>> ((2 : Int32) &&& 31)) &&& (1 : Int32)) = (0 : Int32)
  ·
   let Ls38 : Array Slot := #[.val (.int i0), .val (.int i1), .val (.int i2), .val (.int i3), .val (.int i4), .val (.int w2), .val (.int w17), .val (.int (0 : Int32)), .unset, .unset, .unset, .unset, .unset, .unset, .unset, .unset]
   have p39 : ∀ t, St p e below Tj18 (mkF m 28 Ls38 []) t → S0 t := fun t k => p36 t (by
     show St p e below Tj18 (mkF m 18 Ls35 [(.int ((i4 >>> ((2 : Int32) &&& 31)) &&& (1 : Int32)))]) t
     refine XS.ifYes Xj18.here hx rfl (pc0 := 18) (pc' := 25) rfl (hb hby at_18) rfl ((if0 _ _).trans (teq g37).1) (by decide) (by decide) ?_
     show St p e below Tj18 (mkF m 25 Ls35 []) t
     refine XT.iconstV Xj18.here hx rfl (0 : Int32) (hb hby at_25) (by decide) ?_
     show St p e below Tj18 (mkF m 26 Ls35 [(.int (0 : Int32))]) t
     refine XS.istore Xj18.here hx rfl (hb hby at_26) rfl (l' := Ls38) rfl ?_
     exact k)
   exact ⟨(0 : Int32), _, _, Xj18, ej18, Nj18, p39⟩
  ·
   let Ls40 : Array Slot := #[.val (.int i0), .val (.int i1), .val (.int i2), .val (.int i3), .val (.int i4), .val (.int w2), .val (.int w17), .val (.int (1 : Int32)), .unset, .unset, .unset, .unset, .unset, .unset, .unset, .unset]
   have p41 : ∀ t, St p e below Tj18 (mkF m 28 Ls40 []) t → S0 t := fun t k => p36 t (by
     show St p e below Tj18 (mkF m 18 Ls35 [(.int ((i4 >>> ((2 : Int32) &&& 31)) &&& (1 : Int32)))]) t
     refine XS.ifNo Xj18.here hx rfl (hb hby at_18) rfl ((if0 _ _).trans (feq g37).1) ?_
     show St p e below Tj18 (mkF m 21 Ls35 []) t
     refine XT.iconstV Xj18.here hx rfl (1 : Int32) (hb hby at_21) (by decide) ?_
     show St p e below Tj18 (mkF m 22 Ls35 [(.int (1 : Int32))]) t
     refine XS.goto Xj18.here hx rfl (pc0 := 22) (pc' := 26) rfl (hb hby at_22) (by decide) (by decide) ?_
     show St p e below Tj18 (mkF m 26 Ls35 [(.int (1 : Int32))]) t
     refine XS.istore Xj18.here hx rfl (hb hby at_26) rfl (l' := Ls40) rfl ?_
     exact k)
   exact ⟨(1 : Int32), _, _, Xj18, ej18, Nj18, p41⟩
 obtain ⟨w42, Tj43, Lj43, Xj43, ej43, Nj43, pj43⟩ : ∃ (w42 : Int32) (Tj43 : State) (Lj43 : List Loc), Stand p l e room_1 s m #[(.int i0), (.int i1), (.int i2), (.int i3), (.int i4)] below meth c Tj43 Lj43 0 0 ∧ Tj43.heap = h0 ∧ Fr n0 Lj43 ∧ ∀ t, St p e below Tj43 (mkF m 44 #[.val (.int i0), .val (.int i1), .val (.int i2), .val (.int i3), .val (.int i4), .val (.int w2), .val (.int w17), .val (.int w33), .val (.int w42), .unset, .unset, .unset, .unset, .unset, .unset, .unset] []) t → S0 t := by
  let Ls44 : Array Slot := #[.val (.int i0), .val (.int i1), .val (.int i2), .val (.int i3), .val (.int i4), .val (.int w2), .val (.int w17), .val (.int w33), .unset, .unset, .unset, .unset, .unset, .unset, .unset, .unset]
  have p45 : ∀ t, St p e below Tj34 (mkF m 34 Ls44 [(.int ((i4 >>> ((3 : Int32) &&& 31)) &&& (1 : Int32)))]) t → S0 t := fun t k => pj34 t (by
    show St p e below Tj34 (mkF m 28 Ls44 []) t
    refine XS.iload Xj34.here hx rfl (hb hby at_28) rfl ?_
    show St p e below Tj34 (mkF m 30 Ls44 [(.int i4)]) t
    refine XT.iconstV Xj34.here hx rfl (3 : Int32) (hb hby at_30) (by decide) ?_
    show St p e below Tj34 (mkF m 31 Ls44 [(.int (3 : Int32)), (.int i4)]) t
    refine XS.ishr Xj34.here hx rfl (hb hby at_31) rfl ?_
    show St p e below Tj34 (mkF m 32 Ls44 [(.int (i4 >>> ((3 : Int32) &&& 31)))]) t
    refine XT.iconstV Xj34.here hx rfl (1 : Int32) (hb hby at_32) (by decide) ?_
    show St p e below Tj34 (mkF m 33 Ls44 [(.int (1 : Int32)), (.int (i4 >>> ((3 : Int32) &&& 31)))]) t
    refine XS.iand Xj34.here hx rfl (hb hby at_33) rfl ?_
    exact k)
  by_cases g46 : ((i4 >>> ((3 : Int32) &&& 31)) &&& (1 : Int32)) = (0 : Int32)
  ·
   let Ls47 : Array Slot := #[.val (.int i0), .val (.int i1), .val (.int i2), .val (.int i3), .val (.int i4), .val (.int w2), .val (.int w17), .val (.int w33), .val (.int (0 : Int32)), .unset, .unset, .unset, .unset, .unset, .unset, .unset]
   have p48 : ∀ t, St p e below Tj34 (mkF m 44 Ls47 []) t → S0 t := fun t k => p45 t (by
     show St p e below Tj34 (mkF m 34 Ls44 [(.int ((i4 >>> ((3 : Int32) &&& 31)) &&& (1 : Int32)))]) t
     refine XS.ifYes Xj34.here hx rfl (pc0 := 34) (pc' := 41) rfl (hb hby at_34) rfl ((if0 _ _).trans (teq g46).1) (by decide) (by decide) ?_
     show St p e below Tj34 (mkF m 41 Ls44 []) t
     refine XT.iconstV Xj34.here hx rfl (0 : Int32) (hb hby at_41) (by decide) ?_
     show St p e below Tj34 (mkF m 42 Ls44 [(.int (0 : Int32))]) t
     refine XS.istore Xj34.here hx rfl (hb hby at_42) rfl (l' := Ls47) rfl ?_
     exact k)
   exact ⟨(0 : Int32), _, _, Xj34, ej34, Nj34, p48⟩
  ·
   let Ls49 : Array Slot := #[.val (.int i0), .val (.int i1), .val (.int i2), .val (.int i3), .val (.int i4), .val (.int w2), .val (.int w17), .val (.int w33), .val (.int (1 : Int32)), .unset, .unset, .unset, .unset, .unset, .unset, .unset]
   have p50 : ∀ t, St p e below Tj34 (mkF m 44 Ls49 []) t → S0 t := fun t k => p45 t (by
     show St p e below Tj34 (mkF m 34 Ls44 [(.int ((i4 >>> ((3 : Int32) &&& 31)) &&& (1 : Int32)))]) t
     refine XS.ifNo Xj34.here hx rfl (hb hby at_34) rfl ((if0 _ _).trans (feq g46).1) ?_
     show St p e below Tj34 (mkF m 37 Ls44 []) t
     refine XT.iconstV Xj34.here hx rfl (1 : Int32) (hb hby at_37) (by decide) ?_
     show St p e below Tj34 (mkF m 38 Ls44 [(.int (1 : Int32))]) t
     refine XS.goto Xj34.here hx rfl (pc0 := 38) (pc' := 42) rfl (hb hby at_38) (by decide) (by decide) ?_
     show St p e below Tj34 (mkF m 42 Ls44 [(.int (1 : Int32))]) t
     refine XS.istore Xj34.here hx rfl (hb hby at_42) rfl (l' := Ls49) rfl ?_
     exact k)
   exact ⟨(1 : Int32), _, _, Xj34, ej34, Nj34, p50⟩
 obtain ⟨w51, Tj52, Lj52, Xj52, ej52, Nj52, g53, pj52⟩ : ∃ (w51 : Int32) (Tj52 : State) (Lj52 : List Loc), Stand p l e room_1 s m #[(.int i0), (.int i1), (.int i2), (.int i3), (.int i4)] below meth c Tj52 Lj52 0 0 ∧ Tj52.heap = h0 ∧ Fr n0 Lj52 ∧ ¬ (w51 < (1 : Int32)) ∧ ∀ t, St p e below Tj52 (mkF m 60 #[.val (.int i0), .val (.int i1), .val (.int i2), .val (.int i3), .val (.int i4), .val (.int w2), .val (.int w17), .val (.int w33), .val (.int w42), .val (.int w51), .unset, .unset, .unset, .unset, .unset, .unset] []) t → S0 t := by
  let Ls54 : Array Slot := #[.val (.int i0), .val (.int i1), .val (.int i2), .val (.int i3), .val (.int i4), .val (.int w2), .val (.int w17), .val (.int w33), .val (.int w42), .unset, .unset, .unset, .unset, .unset, .unset, .unset]
  have p55 : ∀ t, St p e below Tj43 (mkF m 46 Ls54 [(.int w33)]) t → S0 t := fun t k => pj43 t (by
    show St p e below Tj43 (mkF m 44 Ls54 []) t
    refine XS.iload Xj43.here hx rfl (hb hby at_44) rfl ?_
    exact k)
  by_cases g56 : w33 = (0 : Int32)
  ·
   have p57 : ∀ t, St p e below Tj43 (mkF m 55 Ls54 [(.int i2)]) t → S0 t := fun t k => p55 t (by
     show St p e below Tj43 (mkF m 46 Ls54 [(.int w33)]) t
     refine XS.ifYes Xj43.here hx rfl (pc0 := 46) (pc' := 54) rfl (hb hby at_46) rfl ((if0 _ _).trans (teq g56).1) (by decide) (by decide) ?_
     show St p e below Tj43 (mkF m 54 Ls54 []) t
     refine XS.iloadN Xj43.here hx rfl (hb hby at_54) rfl ?_
     exact k)
   obtain ⟨_, _, ⟨Tc58, Lc58, kc58, nc58⟩, -, Xc58, ⟨Lcc58, hQc58, lc58, yc58, zc58⟩, stc58⟩ := Jvm.LawKit.callS Xj43 hx (y := M0) hown (mvT hZ (ww hw 0 rfl)) (mvT hZ (ww hw 1 rfl)) (mvT hZ (ww hw 2 rfl)) (mvT hZ (ww hw 3 rfl)) (by decide) (backOf (W := 0) (rm1_0 l Z a0 hw [] a_cache clC i2 h0 n0 O0 HE' ) hZ (ww hw 3 rfl) (ww hw 2 rfl) (by decide) (by decide)) (g := (mkF m 55 Ls54 [(.int i2)])) rfl (by rw [hml]; rfl) (argsL := [(.int i2)]) (rest := []) (lenOf pd0 rfl) rfl (by show 2 * 0 + _ ≤ _; exact Nat.le_of_eq rfl) (hb hby at_55) (fun _ _ => ⟨rfl, ej43, (by decide : 0 + 0 ≤ _), (by decide : 0 + 0 ≤ _)⟩)
   dsimp only [Pt.U, Pt.locs, Pt.cells, Pt.slots] at Xc58 lc58 yc58 zc58 stc58 hQc58
   subst lc58 yc58 zc58
   obtain ⟨Nqc58, ec58, hAc58⟩ := hQc58
   have Nc58 := Fr.app Nj43 Nqc58
   rcases hAc58 with ⟨rfl, g59⟩ | ⟨rfl, g60⟩
   ·
    have p61 : ∀ t, St p e below Tc58 (mkF m 58 Ls54 [(.int (1 : Int32))]) t → S0 t := fun t k => p57 t (stc58 t k)
    let Ls62 : Array Slot := #[.val (.int i0), .val (.int i1), .val (.int i2), .val (.int i3), .val (.int i4), .val (.int w2), .val (.int w17), .val (.int w33), .val (.int w42), .val (.int (1 : Int32)), .unset, .unset, .unset, .unset, .unset, .unset]
    have p63 : ∀ t, St p e below Tc58 (mkF m 60 Ls62 []) t → S0 t := fun t k => p61 t (by
      show St p e below Tc58 (mkF m 58 Ls54 [(.int (1 : Int32))]) t
      refine XS.istore Xc58.here hx rfl (hb hby at_58) rfl (l' := Ls62) rfl ?_
      exact k)
    exact ⟨(1 : Int32), _, _, Xc58, ec58, Nc58, (by decide : ¬ ((1 : Int32) < (1 : Int32))), p63⟩
   ·
    have p64 : ∀ t, St p e below Tc58 (mkF m 58 Ls54 [(.int (i2 &&& (2147483647 : Int32)))]) t → S0 t := fun t k => p57 t (stc58 t k)
    let Ls65 : Array Slot := #[.val (.int i0), .val (.int i1), .val (.int i2), .val (.int i3), .val (.int i4), .val (.int w2), .val (.int w17), .val (.int w33), .val (.int w42), .val (.int (i2 &&& (2147483647 : Int32))), .unset, .unset, .unset, .unset, .unset, .unset]
    have p66 : ∀ t, St p e below Tc58 (mkF m 60 Ls65 []) t → S0 t := fun t k => p64 t (by
      show St p e below Tc58 (mkF m 58 Ls54 [(.int (i2 &&& (2147483647 : Int32)))]) t
      refine XS.istore Xc58.here hx rfl (hb hby at_58) rfl (l' := Ls65) rfl ?_
      exact k)
    have q67 : ¬ ((i2 &&& (2147483647 : Int32)) < (1 : Int32)) := by
     intro r68
     have q1_ := neI g60
     have q2_ := ltI r68
     have l3_ := rng32 i2
     have l4_ := lI2147483647
     have l5_ : (i2 &&& (2147483647 : Int32)).toInt = i2.toInt % 2147483648 := c_mask i2 (2147483647 : Int32) 31 (by decide) (by decide)
     have l6_ := lI0
     have l7_ := lI1
     omega
    exact ⟨(i2 &&& (2147483647 : Int32)), _, _, Xc58, ec58, Nc58, q67, p66⟩
  ·
   let Ls69 : Array Slot := #[.val (.int i0), .val (.int i1), .val (.int i2), .val (.int i3), .val (.int i4), .val (.int w2), .val (.int w17), .val (.int w33), .val (.int w42), .val (.int w2), .unset, .unset, .unset, .unset, .unset, .unset]
   have p70 : ∀ t, St p e below Tj43 (mkF m 60 Ls69 []) t → S0 t := fun t k => p55 t (by
     show St p e below Tj43 (mkF m 46 Ls54 [(.int w33)]) t
     refine XS.ifNo Xj43.here hx rfl (hb hby at_46) rfl ((if0 _ _).trans (feq g56).1) ?_
     show St p e below Tj43 (mkF m 49 Ls54 []) t
     refine XS.iload Xj43.here hx rfl (hb hby at_49) rfl ?_
     show St p e below Tj43 (mkF m 51 Ls54 [(.int w2)]) t
     refine XS.goto Xj43.here hx rfl (pc0 := 51) (pc' := 58) rfl (hb hby at_51) (by decide) (by decide) ?_
     show St p e below Tj43 (mkF m 58 Ls54 [(.int w2)]) t
     refine XS.istore Xj43.here hx rfl (hb hby at_58) rfl (l' := Ls69) rfl ?_
     exact k)
   exact ⟨w2, _, _, Xj43, ej43, Nj43, g4, p70⟩
 obtain ⟨w71, Tj72, Lj72, Xj72, ej72, Nj72, g73, pj72⟩ : ∃ (w71 : Int32) (Tj72 : State) (Lj72 : List Loc), Stand p l e room_1 s m #[(.int i0), (.int i1), (.int i2), (.int i3), (.int i4)] below meth c Tj72 Lj72 0 0 ∧ Tj72.heap = h0 ∧ Fr n0 Lj72 ∧ ¬ (w71 < (1 : Int32)) ∧ ∀ t, St p e below Tj72 (mkF m 76 #[.val (.int i0), .val (.int i1), .val (.int i2), .val (.int i3), .val (.int i4), .val (.int w2), .val (.int w17), .val (.int w33), .val (.int w42), .val (.int w51), .val (.int w71), .unset, .unset, .unset, .unset, .unset] []) t → S0 t := by
  let Ls74 : Array Slot := #[.val (.int i0), .val (.int i1), .val (.int i2), .val (.int i3), .val (.int i4), .val (.int w2), .val (.int w17), .val (.int w33), .val (.int w42), .val (.int w51), .unset, .unset, .unset, .unset, .unset, .unset]
  have p75 : ∀ t, St p e below Tj52 (mkF m 62 Ls74 [(.int w42)]) t → S0 t := fun t k => pj52 t (by
    show St p e below Tj52 (mkF m 60 Ls74 []) t
    refine XS.iload Xj52.here hx rfl (hb hby at_60) rfl ?_
    exact k)
  by_cases g76 : w42 = (0 : Int32)
  ·
   have p77 : ∀ t, St p e below Tj52 (mkF m 71 Ls74 [(.int i3)]) t → S0 t := fun t k => p75 t (by
     show St p e below Tj52 (mkF m 62 Ls74 [(.int w42)]) t
     refine XS.ifYes Xj52.here hx rfl (pc0 := 62) (pc' := 70) rfl (hb hby at_62) rfl ((if0 _ _).trans (teq g76).1) (by decide) (by decide) ?_
     show St p e below Tj52 (mkF m 70 Ls74 []) t
     refine XS.iloadN Xj52.here hx rfl (hb hby at_70) rfl ?_
     exact k)
   obtain ⟨_, _, ⟨Tc78, Lc78, kc78, nc78⟩, -, Xc78, ⟨Lcc78, hQc78, lc78, yc78, zc78⟩, stc78⟩ := Jvm.LawKit.callS Xj52 hx (y := M0) hown (mvT hZ (ww hw 0 rfl)) (mvT hZ (ww hw 1 rfl)) (mvT hZ (ww hw 2 rfl)) (mvT hZ (ww hw 3 rfl)) (by decide) (backOf (W := 0) (rm1_0 l Z a0 hw [] a_cache clC i3 h0 n0 O0 HE' ) hZ (ww hw 3 rfl) (ww hw 2 rfl) (by decide) (by decide)) (g := (mkF m 71 Ls74 [(.int i3)])) rfl (by rw [hml]; rfl) (argsL := [(.int i3)]) (rest := []) (lenOf pd0 rfl) rfl (by show 2 * 0 + _ ≤ _; exact Nat.le_of_eq rfl) (hb hby at_71) (fun _ _ => ⟨rfl, ej52, (by decide : 0 + 0 ≤ _), (by decide : 0 + 0 ≤ _)⟩)
   dsimp only [Pt.U, Pt.locs, Pt.cells, Pt.slots] at Xc78 lc78 yc78 zc78 stc78 hQc78
   subst lc78 yc78 zc78
   obtain ⟨Nqc78, ec78, hAc78⟩ := hQc78
   have Nc78 := Fr.app Nj52 Nqc78
   rcases hAc78 with ⟨rfl, g79⟩ | ⟨rfl, g80⟩
   ·
    have p81 : ∀ t, St p e below Tc78 (mkF m 74 Ls74 [(.int (1 : Int32))]) t → S0 t := fun t k => p77 t (stc78 t k)
    let Ls82 : Array Slot := #[.val (.int i0), .val (.int i1), .val (.int i2), .val (.int i3), .val (.int i4), .val (.int w2), .val (.int w17), .val (.int w33), .val (.int w42), .val (.int w51), .val (.int (1 : Int32)), .unset, .unset, .unset, .unset, .unset]
    have p83 : ∀ t, St p e below Tc78 (mkF m 76 Ls82 []) t → S0 t := fun t k => p81 t (by
      show St p e below Tc78 (mkF m 74 Ls74 [(.int (1 : Int32))]) t
      refine XS.istore Xc78.here hx rfl (hb hby at_74) rfl (l' := Ls82) rfl ?_
      exact k)
    exact ⟨(1 : Int32), _, _, Xc78, ec78, Nc78, (by decide : ¬ ((1 : Int32) < (1 : Int32))), p83⟩
   ·
    have p84 : ∀ t, St p e below Tc78 (mkF m 74 Ls74 [(.int (i3 &&& (2147483647 : Int32)))]) t → S0 t := fun t k => p77 t (stc78 t k)
    let Ls85 : Array Slot := #[.val (.int i0), .val (.int i1), .val (.int i2), .val (.int i3), .val (.int i4), .val (.int w2), .val (.int w17), .val (.int w33), .val (.int w42), .val (.int w51), .val (.int (i3 &&& (2147483647 : Int32))), .unset, .unset, .unset, .unset, .unset]
    have p86 : ∀ t, St p e below Tc78 (mkF m 76 Ls85 []) t → S0 t := fun t k => p84 t (by
      show St p e below Tc78 (mkF m 74 Ls74 [(.int (i3 &&& (2147483647 : Int32)))]) t
      refine XS.istore Xc78.here hx rfl (hb hby at_74) rfl (l' := Ls85) rfl ?_
      exact k)
    have q87 : ¬ ((i3 &&& (2147483647 : Int32)) < (1 : Int32)) := by
     intro r88
     have q1_ := neI g80
     have q2_ := ltI r88
     have l3_ := rng32 i3
     have l4_ := lI2147483647
     have l5_ : (i3 &&& (2147483647 : Int32)).toInt = i3.toInt % 2147483648 := c_mask i3 (2147483647 : Int32) 31 (by decide) (by decide)
     have l6_ := lI0
     have l7_ := lI1
     omega
    exact ⟨(i3 &&& (2147483647 : Int32)), _, _, Xc78, ec78, Nc78, q87, p86⟩
  ·
   let Ls89 : Array Slot := #[.val (.int i0), .val (.int i1), .val (.int i2), .val (.int i3), .val (.int i4), .val (.int w2), .val (.int w17), .val (.int w33), .val (.int w42), .val (.int w51), .val (.int w17), .unset, .unset, .unset, .unset, .unset]
   have p90 : ∀ t, St p e below Tj52 (mkF m 76 Ls89 []) t → S0 t := fun t k => p75 t (by
     show St p e below Tj52 (mkF m 62 Ls74 [(.int w42)]) t
     refine XS.ifNo Xj52.here hx rfl (hb hby at_62) rfl ((if0 _ _).trans (feq g76).1) ?_
     show St p e below Tj52 (mkF m 65 Ls74 []) t
     refine XS.iload Xj52.here hx rfl (hb hby at_65) rfl ?_
     show St p e below Tj52 (mkF m 67 Ls74 [(.int w17)]) t
     refine XS.goto Xj52.here hx rfl (pc0 := 67) (pc' := 74) rfl (hb hby at_67) (by decide) (by decide) ?_
     show St p e below Tj52 (mkF m 74 Ls74 [(.int w17)]) t
     refine XS.istore Xj52.here hx rfl (hb hby at_74) rfl (l' := Ls89) rfl ?_
     exact k)
   exact ⟨w17, _, _, Xj52, ej52, Nj52, g19, p90⟩
 let Ls92 : Array Slot := #[.val (.int i0), .val (.int i1), .val (.int i2), .val (.int i3), .val (.int i4), .val (.int w2), .val (.int w17), .val (.int w33), .val (.int w42), .val (.int w51), .val (.int w71), .unset, .unset, .unset, .unset, .unset]
 obtain ⟨T91, h91, X91, e91, E91, A91, D91, -, st91⟩ := newO Xj72 hx hZ hown (ww hw 5 rfl) (ww hw 6 rfl) (ww hw 7 rfl) ej72 (g := (mkF m 76 Ls92 [])) rfl (hb hby at_76) (by decide) (by decide)
 obtain ⟨o91, gq91⟩ : ∃ z, z = (h0).size := ⟨_, rfl⟩
 rw [← gq91] at A91 D91 st91
 have gb_o91 : n0 ≤ o91 := Nat.le_trans (own_old_le O0) (Nat.le_of_eq gq91.symm)
 have sz_o91 : h0.size ≤ o91 := Nat.le_trans ((Keep.refl h0 [])).1 (Nat.le_of_eq gq91.symm)
 have O93 := O0.ext E91
 have K94 := (Keep.refl h0 []).ext E91
 have E_95 : Exa Z h91 o91 "dev/ambrotype/Size" := A91
 have F_96 : Fld Z h91 o91 "dev/ambrotype/Size" "width" "I" (.int (0 : Int32)) := D91 (Or.inr (ww hw 20 rfl)) (ty := .int) (by decide)
 have F_97 : Fld Z h91 o91 "dev/ambrotype/Size" "height" "I" (.int (0 : Int32)) := D91 (Or.inr (ww hw 22 rfl)) (ty := .int) (by decide)
 have p98 : ∀ t, St p e below T91 (mkF m 79 Ls92 [(.ref o91)]) t → S0 t := fun t k => pj72 t (st91 t k)
 have p99 : ∀ t, St p e below T91 (mkF m 84 Ls92 [(.int w17), (.int w2), (.ref o91), (.ref o91)]) t → S0 t := fun t k => p98 t (by
   show St p e below T91 (mkF m 79 Ls92 [(.ref o91)]) t
   refine XS.dup X91.here hx rfl (hb hby at_79) rfl rfl ?_
   show St p e below T91 (mkF m 80 Ls92 [(.ref o91), (.ref o91)]) t
   refine XS.iload X91.here hx rfl (hb hby at_80) rfl ?_
   show St p e below T91 (mkF m 82 Ls92 [(.int w2), (.ref o91), (.ref o91)]) t
   refine XS.iload X91.here hx rfl (hb hby at_82) rfl ?_
   exact k)
 obtain ⟨_, _, ⟨Tc100, Lc100, kc100, nc100⟩, -, Xc100, ⟨Lcc100, hQc100, lc100, yc100, zc100⟩, stc100⟩ := X91.specialBack hx (y := M2) rfl hown (mvT hZ (ww hw 8 rfl)) (mvT hZ (ww hw 9 rfl)) (mvT hZ (ww hw 10 rfl)) (by decide) (backOf (W := 1) (rm2_1 l Z a0 hw [] a_cache clC w2 w17 o91 h91 n0 O93 HE' gb_o91 E_95 F_96 F_97 g4 g19) hZ (ww hw 10 rfl) (ww hw 7 rfl) (by decide) (by decide)) (g := (mkF m 84 Ls92 [(.int w17), (.int w2), (.ref o91), (.ref o91)])) rfl (by rw [hml]; rfl) (Steps.refl _) (a := o91) (argsL := [(.int w2), (.int w17)]) (rest := [(.ref o91)]) (lenOf pd2 rfl) rfl (by show 2 * 0 + _ ≤ _; exact Nat.le_of_eq rfl) (hb hby at_84) (fun _ _ => ⟨rfl, e91, (by decide : 1 + 0 ≤ _), (by decide : 2 + 0 ≤ _)⟩)
 dsimp only [Pt.U, Pt.locs, Pt.cells, Pt.slots] at Xc100 lc100 yc100 zc100 stc100 hQc100
 subst lc100 yc100 zc100
 obtain ⟨Nqc100, hAc100⟩ := hQc100
 have Nc100 := Fr.app Nj72 Nqc100
 obtain ⟨rfl, Kcc100, f_101, f_102, f_103⟩ := hAc100
 have O104 := O93.keep Kcc100 (allS gb_o91 all0)
 have K105 := Keep.trans K94 Kcc100 (allS (Or.inr sz_o91) all0)
 have p106 : ∀ t, St p e below Tc100 (mkF m 87 Ls92 [(.ref o91)]) t → S0 t := fun t k => p99 t (stc100.trans k)
 let Ls107 : Array Slot := #[.val (.int i0), .val (.int i1), .val (.int i2), .val (.int i3), .val (.int i4), .val (.int w2), .val (.int w17), .val (.int w33), .val (.int w42), .val (.int w51), .val (.int w71), .val (.ref o91), .unset, .unset, .unset, .unset]
 have p108 : ∀ t, St p e below Tc100 (mkF m 89 Ls107 []) t → S0 t := fun t k => p106 t (by
   show St p e below Tc100 (mkF m 87 Ls92 [(.ref o91)]) t
   refine XS.astore Xc100.here hx rfl (hb hby at_87) rfl rfl (l' := Ls107) rfl ?_
   exact k)
 obtain ⟨T109, h109, X109, e109, E109, A109, D109, -, st109⟩ := newO Xc100 hx hZ hown (ww hw 5 rfl) (ww hw 6 rfl) (ww hw 7 rfl) rfl (g := (mkF m 89 Ls107 [])) rfl (hb hby at_89) (by decide) (by decide)
 obtain ⟨o109, gq109⟩ : ∃ z, z = (Tc100.heap).size := ⟨_, rfl⟩
 rw [← gq109] at A109 D109 st109
 have gb_o109 : n0 ≤ o109 := Nat.le_trans (own_old_le O104) (Nat.le_of_eq gq109.symm)
 have sz_o109 : h0.size ≤ o109 := Nat.le_trans (K105).1 (Nat.le_of_eq gq109.symm)
 have ne_o91_o109 : o91 ≠ o109 := Nat.ne_of_lt (Nat.lt_of_lt_of_le f_101.lt (Nat.le_of_eq gq109.symm))
 have E_110 := f_101.ext E109
 have F_111 := f_102.ext E109
 have F_112 := f_103.ext E109
 have O113 := O104.ext E109
 have K114 := K105.ext E109
 have E_115 : Exa Z h109 o109 "dev/ambrotype/Size" := A109
 have F_116 : Fld Z h109 o109 "dev/ambrotype/Size" "width" "I" (.int (0 : Int32)) := D109 (Or.inr (ww hw 20 rfl)) (ty := .int) (by decide)
 have F_117 : Fld Z h109 o109 "dev/ambrotype/Size" "height" "I" (.int (0 : Int32)) := D109 (Or.inr (ww hw 22 rfl)) (ty := .int) (by decide)
 have p118 : ∀ t, St p e below T109 (mkF m 92 Ls107 [(.ref o109)]) t → S0 t := fun t k => p108 t (st109 t k)
 have p119 : ∀ t, St p e below T109 (mkF m 97 Ls107 [(.int w71), (.int w51), (.ref o109), (.ref o109)]) t → S0 t := fun t k => p118 t (by
   show St p e below T109 (mkF m 92 Ls107 [(.ref o109)]) t
   refine XS.dup X109.here hx rfl (hb hby at_92) rfl rfl ?_
   show St p e below T109 (mkF m 93 Ls107 [(.ref o109), (.ref o109)]) t
   refine XS.iload X109.here hx rfl (hb hby at_93) rfl ?_
   show St p e below T109 (mkF m 95 Ls107 [(.int w51), (.ref o109), (.ref o109)]) t
   refine XS.iload X109.here hx rfl (hb hby at_95) rfl ?_
   exact k)
 obtain ⟨_, _, ⟨Tc120, Lc120, kc120, nc120⟩, -, Xc120, ⟨Lcc120, hQc120, lc120, yc120, zc120⟩, stc120⟩ := X109.specialBack hx (y := M2) rfl hown (mvT hZ (ww hw 8 rfl)) (mvT hZ (ww hw 9 rfl)) (mvT hZ (ww hw 10 rfl)) (by decide) (backOf (W := 1) (rm2_1 l Z a0 hw [] a_cache clC w51 w71 o109 h109 n0 O113 HE' gb_o109 E_115 F_116 F_117 g53 g73) hZ (ww hw 10 rfl) (ww hw 7 rfl) (by decide) (by decide)) (g := (mkF m 97 Ls107 [(.int w71), (.int w51), (.ref o109), (.ref o109)])) rfl (by rw [hml]; rfl) (Steps.refl _) (a := o109) (argsL := [(.int w51), (.int w71)]) (rest := [(.ref o109)]) (lenOf pd2 rfl) rfl (by show 2 * 0 + _ ≤ _; exact Nat.le_of_eq rfl) (hb hby at_97) (fun _ _ => ⟨rfl, e109, (by decide : 2 + 0 ≤ _), (by decide : 4 + 0 ≤ _)⟩)
 dsimp only [Pt.U, Pt.locs, Pt.cells, Pt.slots] at Xc120 lc120 yc120 zc120 stc120 hQc120
 subst lc120 yc120 zc120
 obtain ⟨Nqc120, hAc120⟩ := hQc120
 have Nc120 := Fr.app Nc100 Nqc120
 obtain ⟨rfl, Kcc120, f_121, f_122, f_123⟩ := hAc120
 have E_124 := E_110.keep Kcc120
 have F_125 := F_111.keep Kcc120 (ninS ne_o91_o109 nin0)
 have F_126 := F_112.keep Kcc120 (ninS ne_o91_o109 nin0)
 have O127 := O113.keep Kcc120 (allS gb_o109 all0)
 have K128 := Keep.trans K114 Kcc120 (allS (Or.inr sz_o109) all0)
 have p129 : ∀ t, St p e below Tc120 (mkF m 100 Ls107 [(.ref o109)]) t → S0 t := fun t k => p119 t (stc120.trans k)
 let Ls130 : Array Slot := #[.val (.int i0), .val (.int i1), .val (.int i2), .val (.int i3), .val (.int i4), .val (.int w2), .val (.int w17), .val (.int w33), .val (.int w42), .val (.int w51), .val (.int w71), .val (.ref o91), .val (.ref o109), .unset, .unset, .unset]
 have p131 : ∀ t, St p e below Tc120 (mkF m 103 Ls130 [(.int i0)]) t → S0 t := fun t k => p129 t (by
   show St p e below Tc120 (mkF m 100 Ls107 [(.ref o109)]) t
   refine XS.astore Xc120.here hx rfl (hb hby at_100) rfl rfl (l' := Ls130) rfl ?_
   show St p e below Tc120 (mkF m 102 Ls130 []) t
   refine XS.iloadN Xc120.here hx rfl (hb hby at_102) rfl ?_
   exact k)
 obtain ⟨_, _, ⟨Tc132, Lc132, kc132, nc132⟩, -, Xc132, ⟨Lcc132, hQc132, lc132, yc132, zc132⟩, stc132⟩ := Jvm.LawKit.callS Xc120 hx (y := M5) hown (mvT hZ (ww hw 23 rfl)) (mvT hZ (ww hw 24 rfl)) (mvT hZ (ww hw 25 rfl)) (mvT hZ (ww hw 26 rfl)) (by decide) (backOf (W := 0) (rm5_3 l Z a0 hw [] a_cache clC i0 Tc120.heap n0 O127 HE' ) hZ (ww hw 26 rfl) (ww hw 25 rfl) (by decide) (by decide)) (g := (mkF m 103 Ls130 [(.int i0)])) rfl (by rw [hml]; rfl) (argsL := [(.int i0)]) (rest := []) (lenOf pd4 rfl) rfl (by show 2 * 0 + _ ≤ _; exact Nat.le_of_eq rfl) (hb hby at_103) (fun _ _ => ⟨rfl, rfl, (by decide : 2 + 1 ≤ _), (by decide : 4 + 1 ≤ _)⟩)
 dsimp only [Pt.U, Pt.locs, Pt.cells, Pt.slots] at Xc132 lc132 yc132 zc132 stc132 hQc132
 subst lc132 yc132 zc132
 obtain ⟨Nqc132, hAc132⟩ := hQc132
 have Nc132 := Fr.app Nc120 Nqc132
 obtain ⟨o4_c132, rfl, Kcc132, f_133⟩ := hAc132
 have E_134 := E_124.keep Kcc132
 have F_135 := F_125.keep Kcc132 nin0
 have F_136 := F_126.keep Kcc132 nin0
 have E_137 := f_121.keep Kcc132
 have F_138 := f_122.keep Kcc132 nin0
 have F_139 := f_123.keep Kcc132 nin0
 have O140 := O127.keep Kcc132 all0
 have K141 := Keep.trans K128 Kcc132 all0
 have p142 : ∀ t, St p e below Tc132 (mkF m 106 Ls130 [(.ref o4_c132)]) t → S0 t := fun t k => p131 t (stc132 t k)
 let Ls143 : Array Slot := #[.val (.int i0), .val (.int i1), .val (.int i2), .val (.int i3), .val (.int i4), .val (.int w2), .val (.int w17), .val (.int w33), .val (.int w42), .val (.int w51), .val (.int w71), .val (.ref o91), .val (.ref o109), .val (.ref o4_c132), .unset, .unset]
 let Ls144 : Array Slot := #[.val (.int i0), .val (.int i1), .val (.int i2), .val (.int i3), .val (.int i4), .val (.int w2), .val (.int w17), .val (.int w33), .val (.int w42), .val (.int w51), .val (.int w71), .val (.ref o91), .val (.ref o109), .val (.ref o4_c132), .val (.int (i4 &&& (3 : Int32))), .unset]
 have p145 : ∀ t, St p e below Tc132 (mkF m 116 Ls144 [(.int (i4 &&& (3 : Int32)))]) t → S0 t := fun t k => p142 t (by
   show St p e below Tc132 (mkF m 106 Ls130 [(.ref o4_c132)]) t
   refine XS.astore Xc132.here hx rfl (hb hby at_106) rfl rfl (l' := Ls143) rfl ?_
   show St p e below Tc132 (mkF m 108 Ls143 []) t
   refine XS.iload Xc132.here hx rfl (hb hby at_108) rfl ?_
   show St p e below Tc132 (mkF m 110 Ls143 [(.int i4)]) t
   refine XT.iconstV Xc132.here hx rfl (3 : Int32) (hb hby at_110) (by decide) ?_
   show St p e below Tc132 (mkF m 111 Ls143 [(.int (3 : Int32)), (.int i4)]) t
   refine XS.iand Xc132.here hx rfl (hb hby at_111) rfl ?_
   show St p e below Tc132 (mkF m 112 Ls143 [(.int (i4 &&& (3 : Int32)))]) t
   refine XS.istore Xc132.here hx rfl (hb hby at_112) rfl (l' := Ls144) rfl ?_
   show St p e below Tc132 (mkF m 114 Ls144 []) t
   refine XS.iload Xc132.here hx rfl (hb hby at_114) rfl ?_
   exact k)
 by_cases g146 : (i4 &&& (3 : Int32)) = (0 : Int32)
 ·
  have p147 : ∀ t, St p e below Tc132 (mkF m 123 Ls144 [(.int w51), (.int w2)]) t → S0 t := fun t k => p145 t (by
    show St p e below Tc132 (mkF m 116 Ls144 [(.int (i4 &&& (3 : Int32)))]) t
    refine XS.ifNo Xc132.here hx rfl (hb hby at_116) rfl ((if0 _ _).trans (teq g146).2) ?_
    show St p e below Tc132 (mkF m 119 Ls144 []) t
    refine XS.iload Xc132.here hx rfl (hb hby at_119) rfl ?_
    show St p e below Tc132 (mkF m 121 Ls144 [(.int w2)]) t
    refine XS.iload Xc132.here hx rfl (hb hby at_121) rfl ?_
    exact k)
  by_cases g148 : w2 = w51
  ·
   have p149 : ∀ t, St p e below Tc132 (mkF m 130 Ls144 [(.int w71), (.int w17)]) t → S0 t := fun t k => p147 t (by
     show St p e below Tc132 (mkF m 123 Ls144 [(.int w51), (.int w2)]) t
     refine XS.icmpNo Xc132.here hx rfl (hb hby at_123) rfl (teq g148).2 ?_
     show St p e below Tc132 (mkF m 126 Ls144 []) t
     refine XS.iload Xc132.here hx rfl (hb hby at_126) rfl ?_
     show St p e below Tc132 (mkF m 128 Ls144 [(.int w17)]) t
     refine XS.iload Xc132.here hx rfl (hb hby at_128) rfl ?_
     exact k)
   by_cases g150 : w17 = w71
   ·
    let Ls151 : Array Slot := #[.val (.int i0), .val (.int i1), .val (.int i2), .val (.int i3), .val (.int i4), .val (.int w2), .val (.int w17), .val (.int w33), .val (.int w42), .val (.int w51), .val (.int w71), .val (.ref o91), .val (.ref o109), .val (.ref o4_c132), .val (.int (i4 &&& (3 : Int32))), .val (.int (1 : Int32))]
    have p152 : ∀ t, St p e below Tc132 (mkF m 144 Ls151 [(.ref o109), (.ref o91)]) t → S0 t := fun t k => p149 t (by
      show St p e below Tc132 (mkF m 130 Ls144 [(.int w71), (.int w17)]) t
      refine XS.icmpNo Xc132.here hx rfl (hb hby at_130) rfl (teq g150).2 ?_
      show St p e below Tc132 (mkF m 133 Ls144 []) t
      refine XT.iconstV Xc132.here hx rfl (1 : Int32) (hb hby at_133) (by decide) ?_
      show St p e below Tc132 (mkF m 134 Ls144 [(.int (1 : Int32))]) t
      refine XS.goto Xc132.here hx rfl (pc0 := 134) (pc' := 138) rfl (hb hby at_134) (by decide) (by decide) ?_
      show St p e below Tc132 (mkF m 138 Ls144 [(.int (1 : Int32))]) t
      refine XS.istore Xc132.here hx rfl (hb hby at_138) rfl (l' := Ls151) rfl ?_
      show St p e below Tc132 (mkF m 140 Ls151 []) t
      refine XS.aload Xc132.here hx rfl (hb hby at_140) rfl rfl ?_
      show St p e below Tc132 (mkF m 142 Ls151 [(.ref o91)]) t
      refine XS.aload Xc132.here hx rfl (hb hby at_142) rfl rfl ?_
      exact k)
    obtain ⟨cqc153, kqc153, qc153a, qc153b, qc153c⟩ := isOf hZ rfl E_134
    obtain ⟨_, _, ⟨Tc153, Lc153, kc153, nc153⟩, -, Xc153, ⟨Lcc153, hQc153, lc153, yc153, zc153⟩, stc153⟩ := Xc132.virtualBack hx (y := M6) (z := M6) hown (mvT hZ (ww hw 30 rfl)) (mvT hZ (ww hw 31 rfl)) (notFace_of_selects (args := #[]) (mvT hZ (ww hw 33 rfl))) (mvT hZ (ww hw 33 rfl)) (mvT hZ (ww hw 32 rfl)) (by decide) (backOf (W := 0) (rm6_6 l Z a0 hw [] a_cache clC w2 w17 w51 w71 o91 o109 Tc132.heap n0 O140 HE' gb_o91 gb_o109 ne_o91_o109 E_134 F_135 F_136 E_137 F_138 F_139) hZ (ww hw 34 rfl) (ww hw 7 rfl) (by decide) (by decide)) qc153a qc153c (g := (mkF m 144 Ls151 [(.ref o109), (.ref o91)])) rfl (by rw [hml]; rfl) (Steps.refl _) (argsL := [(.ref o109)]) (rest := []) (lenOf pd5 rfl) rfl (by show 2 * 0 + _ ≤ _; exact Nat.le_of_eq rfl) (hb hby at_144) (fun _ _ => ⟨rfl, rfl, (by decide : 3 + 0 ≤ _), (by decide : 5 + 0 ≤ _)⟩)
    dsimp only [Pt.U, Pt.locs, Pt.cells, Pt.slots] at Xc153 lc153 yc153 zc153 stc153 hQc153
    subst lc153 yc153 zc153
    obtain ⟨Nqc153, ec153, hAc153⟩ := hQc153
    have Nc153 := Fr.app Nc132 Nqc153
    rcases hAc153 with ⟨rfl, g154, g155⟩ | ⟨rfl, g156, g157⟩ | ⟨rfl, g158⟩
    ·
     have p159 : ∀ t, St p e below Tc153 (mkF m 147 Ls151 [(.int (1 : Int32))]) t → S0 t := fun t k => p152 t (stc153.trans k)
     have p160 : ∀ t, St p e below Tc153 (mkF m 156 Ls151 [(.ref o91), (.ref o109)]) t → S0 t := fun t k => p159 t (by
       show St p e below Tc153 (mkF m 147 Ls151 [(.int (1 : Int32))]) t
       refine XS.iload Xc153.here hx rfl (hb hby at_147) rfl ?_
       show St p e below Tc153 (mkF m 149 Ls151 [(.int (1 : Int32)), (.int (1 : Int32))]) t
       refine XS.icmpNo Xc153.here hx rfl (hb hby at_149) rfl (teq (by decide : (1 : Int32) = (1 : Int32))).2 ?_
       show St p e below Tc153 (mkF m 152 Ls151 []) t
       refine XS.aload Xc153.here hx rfl (hb hby at_152) rfl rfl ?_
       show St p e below Tc153 (mkF m 154 Ls151 [(.ref o109)]) t
       refine XS.aload Xc153.here hx rfl (hb hby at_154) rfl rfl ?_
       exact k)
     obtain ⟨cqc161, kqc161, qc161a, qc161b, qc161c⟩ := isOf hZ ec153 E_137
     obtain ⟨_, _, ⟨Tc161, Lc161, kc161, nc161⟩, -, Xc161, ⟨Lcc161, hQc161, lc161, yc161, zc161⟩, stc161⟩ := Xc153.virtualBack hx (y := M6) (z := M6) hown (mvT hZ (ww hw 30 rfl)) (mvT hZ (ww hw 31 rfl)) (notFace_of_selects (args := #[]) (mvT hZ (ww hw 33 rfl))) (mvT hZ (ww hw 33 rfl)) (mvT hZ (ww hw 32 rfl)) (by decide) (backOf (W := 0) (rm6_6 l Z a0 hw [] a_cache clC w51 w71 w2 w17 o109 o91 Tc132.heap n0 O140 HE' gb_o109 gb_o91 (Ne.symm ne_o91_o109) E_137 F_138 F_139 E_134 F_135 F_136) hZ (ww hw 34 rfl) (ww hw 7 rfl) (by decide) (by decide)) qc161a qc161c (g := (mkF m 156 Ls151 [(.ref o91), (.ref o109)])) rfl (by rw [hml]; rfl) (Steps.refl _) (argsL := [(.ref o91)]) (rest := []) (lenOf pd5 rfl) rfl (by show 2 * 0 + _ ≤ _; exact Nat.le_of_eq rfl) (hb hby at_156) (fun _ _ => ⟨rfl, ec153, (by decide : 3 + 0 ≤ _), (by decide : 5 + 0 ≤ _)⟩)
     dsimp only [Pt.U, Pt.locs, Pt.cells, Pt.slots] at Xc161 lc161 yc161 zc161 stc161 hQc161
     subst lc161 yc161 zc161
     obtain ⟨Nqc161, ec161, hAc161⟩ := hQc161
     have Nc161 := Fr.app Nc153 Nqc161
     rcases hAc161 with ⟨rfl, g162, g163⟩ | ⟨rfl, g164, g165⟩ | ⟨rfl, g166⟩
     ·
      have p167 : ∀ t, St p e below Tc161 (mkF m 159 Ls151 [(.int (1 : Int32))]) t → S0 t := fun t k => p160 t (stc161.trans k)
      have p168 : ∀ t, St p e below Tc161 (mkF m 169 Ls151 [(.int (1 : Int32))]) t → S0 t := fun t k => p167 t (by
        show St p e below Tc161 (mkF m 159 Ls151 [(.int (1 : Int32))]) t
        refine XS.iload Xc161.here hx rfl (hb hby at_159) rfl ?_
        show St p e below Tc161 (mkF m 161 Ls151 [(.int (1 : Int32)), (.int (1 : Int32))]) t
        refine XS.icmpNo Xc161.here hx rfl (hb hby at_161) rfl (teq (by decide : (1 : Int32) = (1 : Int32))).2 ?_
        show St p e below Tc161 (mkF m 164 Ls151 []) t
        refine XT.iconstV Xc161.here hx rfl (1 : Int32) (hb hby at_164) (by decide) ?_
        show St p e below Tc161 (mkF m 165 Ls151 [(.int (1 : Int32))]) t
        refine XS.goto Xc161.here hx rfl (pc0 := 165) (pc' := 169) rfl (hb hby at_165) (by decide) (by decide) ?_
        exact k)
      obtain ⟨fs, hr, hrun, hended, hW, hsame⟩ := Xc161.leave (v := some (.int (1 : Int32))) (fun h => by rw [Bd.returns] at h; cases h)
      refine ⟨_, _, p168 _ ?_, hrun, hended, _, _, rfl, ?_, ⟨_, rfl⟩, hW, hsame.mono (by decide) (by decide)⟩
      · exact retOut Xc161 hx Bd.returns rfl (Or.inl ⟨rfl, by simp, _, rfl⟩) (hb hby at_169) hr
      · exact ⟨rfl, Nc161⟩
     ·
      exfalso
      have q1_ := nltI g4
      have q2_ := nltI g19
      have q3_ := nltI g53
      have q4_ := nltI g73
      have q5_ := eqI g148
      have q6_ := eqI g150
      have q7_ := eqI g154
      have q8_ := eqI g155
      have q9_ := eqI g164
      have q10_ := neI g165
      have l11_ := rng32 w2
      have l12_ := lI1
      have l13_ := rng32 w17
      have l14_ := rng32 w51
      have l15_ := rng32 w71
      omega
     ·
      exfalso
      have q1_ := nltI g4
      have q2_ := nltI g53
      have q3_ := eqI g148
      have q4_ := eqI g154
      have q5_ := neI g166
      have l6_ := rng32 w2
      have l7_ := lI1
      have l8_ := rng32 w51
      omega
    ·
     exfalso
     have q1_ := nltI g4
     have q2_ := nltI g19
     have q3_ := nltI g53
     have q4_ := nltI g73
     have q5_ := eqI g148
     have q6_ := eqI g150
     have q7_ := eqI g156
     have q8_ := neI g157
     have l9_ := rng32 w2
     have l10_ := lI1
     have l11_ := rng32 w17
     have l12_ := rng32 w51
     have l13_ := rng32 w71
     omega
    ·
     exfalso
     have q1_ := nltI g4
     have q2_ := nltI g53
     have q3_ := eqI g148
     have q4_ := neI g158
     have l5_ := rng32 w2
     have l6_ := lI1
     have l7_ := rng32 w51
     omega
   ·
    let Ls169 : Array Slot := #[.val (.int i0), .val (.int i1), .val (.int i2), .val (.int i3), .val (.int i4), .val (.int w2), .val (.int w17), .val (.int w33), .val (.int w42), .val (.int w51), .val (.int w71), .val (.ref o91), .val (.ref o109), .val (.ref o4_c132), .val (.int (i4 &&& (3 : Int32))), .val (.int (0 : Int32))]
    have p170 : ∀ t, St p e below Tc132 (mkF m 144 Ls169 [(.ref o109), (.ref o91)]) t → S0 t := fun t k => p149 t (by
      show St p e below Tc132 (mkF m 130 Ls144 [(.int w71), (.int w17)]) t
      refine XS.icmpYes Xc132.here hx rfl (pc0 := 130) (pc' := 137) rfl (hb hby at_130) rfl (feq g150).2 (by decide) (by decide) ?_
      show St p e below Tc132 (mkF m 137 Ls144 []) t
      refine XT.iconstV Xc132.here hx rfl (0 : Int32) (hb hby at_137) (by decide) ?_
      show St p e below Tc132 (mkF m 138 Ls144 [(.int (0 : Int32))]) t
      refine XS.istore Xc132.here hx rfl (hb hby at_138) rfl (l' := Ls169) rfl ?_
      show St p e below Tc132 (mkF m 140 Ls169 []) t
      refine XS.aload Xc132.here hx rfl (hb hby at_140) rfl rfl ?_
      show St p e below Tc132 (mkF m 142 Ls169 [(.ref o91)]) t
      refine XS.aload Xc132.here hx rfl (hb hby at_142) rfl rfl ?_
      exact k)
    obtain ⟨cqc171, kqc171, qc171a, qc171b, qc171c⟩ := isOf hZ rfl E_134
    obtain ⟨_, _, ⟨Tc171, Lc171, kc171, nc171⟩, -, Xc171, ⟨Lcc171, hQc171, lc171, yc171, zc171⟩, stc171⟩ := Xc132.virtualBack hx (y := M6) (z := M6) hown (mvT hZ (ww hw 30 rfl)) (mvT hZ (ww hw 31 rfl)) (notFace_of_selects (args := #[]) (mvT hZ (ww hw 33 rfl))) (mvT hZ (ww hw 33 rfl)) (mvT hZ (ww hw 32 rfl)) (by decide) (backOf (W := 0) (rm6_6 l Z a0 hw [] a_cache clC w2 w17 w51 w71 o91 o109 Tc132.heap n0 O140 HE' gb_o91 gb_o109 ne_o91_o109 E_134 F_135 F_136 E_137 F_138 F_139) hZ (ww hw 34 rfl) (ww hw 7 rfl) (by decide) (by decide)) qc171a qc171c (g := (mkF m 144 Ls169 [(.ref o109), (.ref o91)])) rfl (by rw [hml]; rfl) (Steps.refl _) (argsL := [(.ref o109)]) (rest := []) (lenOf pd5 rfl) rfl (by show 2 * 0 + _ ≤ _; exact Nat.le_of_eq rfl) (hb hby at_144) (fun _ _ => ⟨rfl, rfl, (by decide : 3 + 0 ≤ _), (by decide : 5 + 0 ≤ _)⟩)
    dsimp only [Pt.U, Pt.locs, Pt.cells, Pt.slots] at Xc171 lc171 yc171 zc171 stc171 hQc171
    subst lc171 yc171 zc171
    obtain ⟨Nqc171, ec171, hAc171⟩ := hQc171
    have Nc171 := Fr.app Nc132 Nqc171
    rcases hAc171 with ⟨rfl, g172, g173⟩ | ⟨rfl, g174, g175⟩ | ⟨rfl, g176⟩
    ·
     exfalso
     have q1_ := nltI g4
     have q2_ := nltI g19
     have q3_ := nltI g53
     have q4_ := nltI g73
     have q5_ := eqI g148
     have q6_ := neI g150
     have q7_ := eqI g172
     have q8_ := eqI g173
     have l9_ := rng32 w2
     have l10_ := lI1
     have l11_ := rng32 w17
     have l12_ := rng32 w51
     have l13_ := rng32 w71
     omega
    ·
     have p177 : ∀ t, St p e below Tc171 (mkF m 147 Ls169 [(.int (0 : Int32))]) t → S0 t := fun t k => p170 t (stc171.trans k)
     have p178 : ∀ t, St p e below Tc171 (mkF m 156 Ls169 [(.ref o91), (.ref o109)]) t → S0 t := fun t k => p177 t (by
       show St p e below Tc171 (mkF m 147 Ls169 [(.int (0 : Int32))]) t
       refine XS.iload Xc171.here hx rfl (hb hby at_147) rfl ?_
       show St p e below Tc171 (mkF m 149 Ls169 [(.int (0 : Int32)), (.int (0 : Int32))]) t
       refine XS.icmpNo Xc171.here hx rfl (hb hby at_149) rfl (teq (by decide : (0 : Int32) = (0 : Int32))).2 ?_
       show St p e below Tc171 (mkF m 152 Ls169 []) t
       refine XS.aload Xc171.here hx rfl (hb hby at_152) rfl rfl ?_
       show St p e below Tc171 (mkF m 154 Ls169 [(.ref o109)]) t
       refine XS.aload Xc171.here hx rfl (hb hby at_154) rfl rfl ?_
       exact k)
     obtain ⟨cqc179, kqc179, qc179a, qc179b, qc179c⟩ := isOf hZ ec171 E_137
     obtain ⟨_, _, ⟨Tc179, Lc179, kc179, nc179⟩, -, Xc179, ⟨Lcc179, hQc179, lc179, yc179, zc179⟩, stc179⟩ := Xc171.virtualBack hx (y := M6) (z := M6) hown (mvT hZ (ww hw 30 rfl)) (mvT hZ (ww hw 31 rfl)) (notFace_of_selects (args := #[]) (mvT hZ (ww hw 33 rfl))) (mvT hZ (ww hw 33 rfl)) (mvT hZ (ww hw 32 rfl)) (by decide) (backOf (W := 0) (rm6_6 l Z a0 hw [] a_cache clC w51 w71 w2 w17 o109 o91 Tc132.heap n0 O140 HE' gb_o109 gb_o91 (Ne.symm ne_o91_o109) E_137 F_138 F_139 E_134 F_135 F_136) hZ (ww hw 34 rfl) (ww hw 7 rfl) (by decide) (by decide)) qc179a qc179c (g := (mkF m 156 Ls169 [(.ref o91), (.ref o109)])) rfl (by rw [hml]; rfl) (Steps.refl _) (argsL := [(.ref o91)]) (rest := []) (lenOf pd5 rfl) rfl (by show 2 * 0 + _ ≤ _; exact Nat.le_of_eq rfl) (hb hby at_156) (fun _ _ => ⟨rfl, ec171, (by decide : 3 + 0 ≤ _), (by decide : 5 + 0 ≤ _)⟩)
     dsimp only [Pt.U, Pt.locs, Pt.cells, Pt.slots] at Xc179 lc179 yc179 zc179 stc179 hQc179
     subst lc179 yc179 zc179
     obtain ⟨Nqc179, ec179, hAc179⟩ := hQc179
     have Nc179 := Fr.app Nc171 Nqc179
     rcases hAc179 with ⟨rfl, g180, g181⟩ | ⟨rfl, g182, g183⟩ | ⟨rfl, g184⟩
     ·
      exfalso
      have q1_ := nltI g4
      have q2_ := nltI g19
      have q3_ := nltI g53
      have q4_ := nltI g73
      have q5_ := eqI g148
      have q6_ := neI g150
      have q7_ := eqI g174
      have q8_ := neI g175
      have q9_ := eqI g180
      have q10_ := eqI g181
      have l11_ := rng32 w2
      have l12_ := lI1
      have l13_ := rng32 w17
      have l14_ := rng32 w51
      have l15_ := rng32 w71
      omega
     ·
      have p185 : ∀ t, St p e below Tc179 (mkF m 159 Ls169 [(.int (0 : Int32))]) t → S0 t := fun t k => p178 t (stc179.trans k)
      have p186 : ∀ t, St p e below Tc179 (mkF m 169 Ls169 [(.int (1 : Int32))]) t → S0 t := fun t k => p185 t (by
        show St p e below Tc179 (mkF m 159 Ls169 [(.int (0 : Int32))]) t
        refine XS.iload Xc179.here hx rfl (hb hby at_159) rfl ?_
        show St p e below Tc179 (mkF m 161 Ls169 [(.int (0 : Int32)), (.int (0 : Int32))]) t
        refine XS.icmpNo Xc179.here hx rfl (hb hby at_161) rfl (teq (by decide : (0 : Int32) = (0 : Int32))).2 ?_
        show St p e below Tc179 (mkF m 164 Ls169 []) t
        refine XT.iconstV Xc179.here hx rfl (1 : Int32) (hb hby at_164) (by decide) ?_
        show St p e below Tc179 (mkF m 165 Ls169 [(.int (1 : Int32))]) t
        refine XS.goto Xc179.here hx rfl (pc0 := 165) (pc' := 169) rfl (hb hby at_165) (by decide) (by decide) ?_
        exact k)
      obtain ⟨fs, hr, hrun, hended, hW, hsame⟩ := Xc179.leave (v := some (.int (1 : Int32))) (fun h => by rw [Bd.returns] at h; cases h)
      refine ⟨_, _, p186 _ ?_, hrun, hended, _, _, rfl, ?_, ⟨_, rfl⟩, hW, hsame.mono (by decide) (by decide)⟩
      · exact retOut Xc179 hx Bd.returns rfl (Or.inl ⟨rfl, by simp, _, rfl⟩) (hb hby at_169) hr
      · exact ⟨rfl, Nc179⟩
     ·
      exfalso
      have q1_ := nltI g4
      have q2_ := nltI g53
      have q3_ := eqI g148
      have q4_ := eqI g174
      have q5_ := neI g184
      have l6_ := rng32 w2
      have l7_ := lI1
      have l8_ := rng32 w51
      omega
    ·
     exfalso
     have q1_ := nltI g4
     have q2_ := nltI g53
     have q3_ := eqI g148
     have q4_ := neI g176
     have l5_ := rng32 w2
     have l6_ := lI1
     have l7_ := rng32 w51
     omega
  ·
   let Ls187 : Array Slot := #[.val (.int i0), .val (.int i1), .val (.int i2), .val (.int i3), .val (.int i4), .val (.int w2), .val (.int w17), .val (.int w33), .val (.int w42), .val (.int w51), .val (.int w71), .val (.ref o91), .val (.ref o109), .val (.ref o4_c132), .val (.int (i4 &&& (3 : Int32))), .val (.int (0 : Int32))]
   have p188 : ∀ t, St p e below Tc132 (mkF m 144 Ls187 [(.ref o109), (.ref o91)]) t → S0 t := fun t k => p147 t (by
     show St p e below Tc132 (mkF m 123 Ls144 [(.int w51), (.int w2)]) t
     refine XS.icmpYes Xc132.here hx rfl (pc0 := 123) (pc' := 137) rfl (hb hby at_123) rfl (feq g148).2 (by decide) (by decide) ?_
     show St p e below Tc132 (mkF m 137 Ls144 []) t
     refine XT.iconstV Xc132.here hx rfl (0 : Int32) (hb hby at_137) (by decide) ?_
     show St p e below Tc132 (mkF m 138 Ls144 [(.int (0 : Int32))]) t
     refine XS.istore Xc132.here hx rfl (hb hby at_138) rfl (l' := Ls187) rfl ?_
     show St p e below Tc132 (mkF m 140 Ls187 []) t
     refine XS.aload Xc132.here hx rfl (hb hby at_140) rfl rfl ?_
     show St p e below Tc132 (mkF m 142 Ls187 [(.ref o91)]) t
     refine XS.aload Xc132.here hx rfl (hb hby at_142) rfl rfl ?_
     exact k)
   obtain ⟨cqc189, kqc189, qc189a, qc189b, qc189c⟩ := isOf hZ rfl E_134
   obtain ⟨_, _, ⟨Tc189, Lc189, kc189, nc189⟩, -, Xc189, ⟨Lcc189, hQc189, lc189, yc189, zc189⟩, stc189⟩ := Xc132.virtualBack hx (y := M6) (z := M6) hown (mvT hZ (ww hw 30 rfl)) (mvT hZ (ww hw 31 rfl)) (notFace_of_selects (args := #[]) (mvT hZ (ww hw 33 rfl))) (mvT hZ (ww hw 33 rfl)) (mvT hZ (ww hw 32 rfl)) (by decide) (backOf (W := 0) (rm6_6 l Z a0 hw [] a_cache clC w2 w17 w51 w71 o91 o109 Tc132.heap n0 O140 HE' gb_o91 gb_o109 ne_o91_o109 E_134 F_135 F_136 E_137 F_138 F_139) hZ (ww hw 34 rfl) (ww hw 7 rfl) (by decide) (by decide)) qc189a qc189c (g := (mkF m 144 Ls187 [(.ref o109), (.ref o91)])) rfl (by rw [hml]; rfl) (Steps.refl _) (argsL := [(.ref o109)]) (rest := []) (lenOf pd5 rfl) rfl (by show 2 * 0 + _ ≤ _; exact Nat.le_of_eq rfl) (hb hby at_144) (fun _ _ => ⟨rfl, rfl, (by decide : 3 + 0 ≤ _), (by decide : 5 + 0 ≤ _)⟩)
   dsimp only [Pt.U, Pt.locs, Pt.cells, Pt.slots] at Xc189 lc189 yc189 zc189 stc189 hQc189
   subst lc189 yc189 zc189
   obtain ⟨Nqc189, ec189, hAc189⟩ := hQc189
   have Nc189 := Fr.app Nc132 Nqc189
   rcases hAc189 with ⟨rfl, g190, g191⟩ | ⟨rfl, g192, g193⟩ | ⟨rfl, g194⟩
   ·
    exfalso
    have q1_ := nltI g4
    have q2_ := nltI g19
    have q3_ := nltI g53
    have q4_ := nltI g73
    have q5_ := neI g148
    have q6_ := eqI g190
    have q7_ := eqI g191
    have l8_ := rng32 w2
    have l9_ := lI1
    have l10_ := rng32 w17
    have l11_ := rng32 w51
    have l12_ := rng32 w71
    omega
   ·
    exfalso
    have q1_ := nltI g4
    have q2_ := nltI g19
    have q3_ := nltI g53
    have q4_ := nltI g73
    have q5_ := neI g148
    have q6_ := eqI g192
    have q7_ := neI g193
    have l8_ := rng32 w2
    have l9_ := lI1
    have l10_ := rng32 w17
    have l11_ := rng32 w51
    have l12_ := rng32 w71
    omega
   ·
    have p195 : ∀ t, St p e below Tc189 (mkF m 147 Ls187 [(.int (0 : Int32))]) t → S0 t := fun t k => p188 t (stc189.trans k)
    have p196 : ∀ t, St p e below Tc189 (mkF m 156 Ls187 [(.ref o91), (.ref o109)]) t → S0 t := fun t k => p195 t (by
      show St p e below Tc189 (mkF m 147 Ls187 [(.int (0 : Int32))]) t
      refine XS.iload Xc189.here hx rfl (hb hby at_147) rfl ?_
      show St p e below Tc189 (mkF m 149 Ls187 [(.int (0 : Int32)), (.int (0 : Int32))]) t
      refine XS.icmpNo Xc189.here hx rfl (hb hby at_149) rfl (teq (by decide : (0 : Int32) = (0 : Int32))).2 ?_
      show St p e below Tc189 (mkF m 152 Ls187 []) t
      refine XS.aload Xc189.here hx rfl (hb hby at_152) rfl rfl ?_
      show St p e below Tc189 (mkF m 154 Ls187 [(.ref o109)]) t
      refine XS.aload Xc189.here hx rfl (hb hby at_154) rfl rfl ?_
      exact k)
    obtain ⟨cqc197, kqc197, qc197a, qc197b, qc197c⟩ := isOf hZ ec189 E_137
    obtain ⟨_, _, ⟨Tc197, Lc197, kc197, nc197⟩, -, Xc197, ⟨Lcc197, hQc197, lc197, yc197, zc197⟩, stc197⟩ := Xc189.virtualBack hx (y := M6) (z := M6) hown (mvT hZ (ww hw 30 rfl)) (mvT hZ (ww hw 31 rfl)) (notFace_of_selects (args := #[]) (mvT hZ (ww hw 33 rfl))) (mvT hZ (ww hw 33 rfl)) (mvT hZ (ww hw 32 rfl)) (by decide) (backOf (W := 0) (rm6_6 l Z a0 hw [] a_cache clC w51 w71 w2 w17 o109 o91 Tc132.heap n0 O140 HE' gb_o109 gb_o91 (Ne.symm ne_o91_o109) E_137 F_138 F_139 E_134 F_135 F_136) hZ (ww hw 34 rfl) (ww hw 7 rfl) (by decide) (by decide)) qc197a qc197c (g := (mkF m 156 Ls187 [(.ref o91), (.ref o109)])) rfl (by rw [hml]; rfl) (Steps.refl _) (argsL := [(.ref o91)]) (rest := []) (lenOf pd5 rfl) rfl (by show 2 * 0 + _ ≤ _; exact Nat.le_of_eq rfl) (hb hby at_156) (fun _ _ => ⟨rfl, ec189, (by decide : 3 + 0 ≤ _), (by decide : 5 + 0 ≤ _)⟩)
    dsimp only [Pt.U, Pt.locs, Pt.cells, Pt.slots] at Xc197 lc197 yc197 zc197 stc197 hQc197
    subst lc197 yc197 zc197
    obtain ⟨Nqc197, ec197, hAc197⟩ := hQc197
    have Nc197 := Fr.app Nc189 Nqc197
    rcases hAc197 with ⟨rfl, g198, g199⟩ | ⟨rfl, g200, g201⟩ | ⟨rfl, g202⟩
    ·
     exfalso
     have q1_ := nltI g4
     have q2_ := nltI g19
     have q3_ := nltI g53
     have q4_ := nltI g73
     have q5_ := neI g148
     have q6_ := neI g194
     have q7_ := eqI g198
     have q8_ := eqI g199
     have l9_ := rng32 w2
     have l10_ := lI1
     have l11_ := rng32 w17
     have l12_ := rng32 w51
     have l13_ := rng32 w71
     omega
    ·
     exfalso
     have q1_ := nltI g4
     have q2_ := nltI g19
     have q3_ := nltI g53
     have q4_ := nltI g73
     have q5_ := neI g148
     have q6_ := neI g194
     have q7_ := eqI g200
     have q8_ := neI g201
     have l9_ := rng32 w2
     have l10_ := lI1
     have l11_ := rng32 w17
     have l12_ := rng32 w51
     have l13_ := rng32 w71
     omega
    ·
     have p203 : ∀ t, St p e below Tc197 (mkF m 159 Ls187 [(.int (0 : Int32))]) t → S0 t := fun t k => p196 t (stc197.trans k)
     have p204 : ∀ t, St p e below Tc197 (mkF m 169 Ls187 [(.int (1 : Int32))]) t → S0 t := fun t k => p203 t (by
       show St p e below Tc197 (mkF m 159 Ls187 [(.int (0 : Int32))]) t
       refine XS.iload Xc197.here hx rfl (hb hby at_159) rfl ?_
       show St p e below Tc197 (mkF m 161 Ls187 [(.int (0 : Int32)), (.int (0 : Int32))]) t
       refine XS.icmpNo Xc197.here hx rfl (hb hby at_161) rfl (teq (by decide : (0 : Int32) = (0 : Int32))).2 ?_
       show St p e below Tc197 (mkF m 164 Ls187 []) t
       refine XT.iconstV Xc197.here hx rfl (1 : Int32) (hb hby at_164) (by decide) ?_
       show St p e below Tc197 (mkF m 165 Ls187 [(.int (1 : Int32))]) t
       refine XS.goto Xc197.here hx rfl (pc0 := 165) (pc' := 169) rfl (hb hby at_165) (by decide) (by decide) ?_
       exact k)
     obtain ⟨fs, hr, hrun, hended, hW, hsame⟩ := Xc197.leave (v := some (.int (1 : Int32))) (fun h => by rw [Bd.returns] at h; cases h)
     refine ⟨_, _, p204 _ ?_, hrun, hended, _, _, rfl, ?_, ⟨_, rfl⟩, hW, hsame.mono (by decide) (by decide)⟩
     · exact retOut Xc197 hx Bd.returns rfl (Or.inl ⟨rfl, by simp, _, rfl⟩) (hb hby at_169) hr
     · exact ⟨rfl, Nc197⟩
 ·
  have p205 : ∀ t, St p e below Tc132 (mkF m 173 Ls144 [(.int (1 : Int32)), (.int (i4 &&& (3 : Int32)))]) t → S0 t := fun t k => p145 t (by
    show St p e below Tc132 (mkF m 116 Ls144 [(.int (i4 &&& (3 : Int32)))]) t
    refine XS.ifYes Xc132.here hx rfl (pc0 := 116) (pc' := 170) rfl (hb hby at_116) rfl ((if0 _ _).trans (feq g146).2) (by decide) (by decide) ?_
    show St p e below Tc132 (mkF m 170 Ls144 []) t
    refine XS.iload Xc132.here hx rfl (hb hby at_170) rfl ?_
    show St p e below Tc132 (mkF m 172 Ls144 [(.int (i4 &&& (3 : Int32)))]) t
    refine XT.iconstV Xc132.here hx rfl (1 : Int32) (hb hby at_172) (by decide) ?_
    exact k)
  by_cases g206 : (i4 &&& (3 : Int32)) = (1 : Int32)
  ·
   have p207 : ∀ t, St p e below Tc132 (mkF m 180 Ls144 [(.ref o91), (.ref o91)]) t → S0 t := fun t k => p205 t (by
     show St p e below Tc132 (mkF m 173 Ls144 [(.int (1 : Int32)), (.int (i4 &&& (3 : Int32)))]) t
     refine XS.icmpNo Xc132.here hx rfl (hb hby at_173) rfl (teq g206).2 ?_
     show St p e below Tc132 (mkF m 176 Ls144 []) t
     refine XS.aload Xc132.here hx rfl (hb hby at_176) rfl rfl ?_
     show St p e below Tc132 (mkF m 178 Ls144 [(.ref o91)]) t
     refine XS.aload Xc132.here hx rfl (hb hby at_178) rfl rfl ?_
     exact k)
   obtain ⟨cqc208, kqc208, qc208a, qc208b, qc208c⟩ := isOf hZ rfl E_134
   obtain ⟨_, _, ⟨Tc208, Lc208, kc208, nc208⟩, -, Xc208, ⟨Lcc208, hQc208, lc208, yc208, zc208⟩, stc208⟩ := Xc132.virtualBack hx (y := M6) (z := M6) hown (mvT hZ (ww hw 30 rfl)) (mvT hZ (ww hw 31 rfl)) (notFace_of_selects (args := #[]) (mvT hZ (ww hw 33 rfl))) (mvT hZ (ww hw 33 rfl)) (mvT hZ (ww hw 32 rfl)) (by decide) (backOf (W := 0) (rm6_7 l Z a0 hw [] a_cache clC w2 w17 o91 Tc132.heap n0 O140 HE' gb_o91 E_134 F_135 F_136) hZ (ww hw 34 rfl) (ww hw 7 rfl) (by decide) (by decide)) qc208a qc208c (g := (mkF m 180 Ls144 [(.ref o91), (.ref o91)])) rfl (by rw [hml]; rfl) (Steps.refl _) (argsL := [(.ref o91)]) (rest := []) (lenOf pd5 rfl) rfl (by show 2 * 0 + _ ≤ _; exact Nat.le_of_eq rfl) (hb hby at_180) (fun _ _ => ⟨rfl, rfl, (by decide : 3 + 0 ≤ _), (by decide : 5 + 0 ≤ _)⟩)
   dsimp only [Pt.U, Pt.locs, Pt.cells, Pt.slots] at Xc208 lc208 yc208 zc208 stc208 hQc208
   subst lc208 yc208 zc208
   obtain ⟨Nqc208, ec208, hAc208⟩ := hQc208
   have Nc208 := Fr.app Nc132 Nqc208
   obtain rfl := hAc208
   have p209 : ∀ t, St p e below Tc208 (mkF m 183 Ls144 [(.int (1 : Int32))]) t → S0 t := fun t k => p207 t (stc208.trans k)
   obtain ⟨fs, hr, hrun, hended, hW, hsame⟩ := Xc208.leave (v := some (.int (1 : Int32))) (fun h => by rw [Bd.returns] at h; cases h)
   refine ⟨_, _, p209 _ ?_, hrun, hended, _, _, rfl, ?_, ⟨_, rfl⟩, hW, hsame.mono (by decide) (by decide)⟩
   · exact retOut Xc208 hx Bd.returns rfl (Or.inl ⟨rfl, by simp, _, rfl⟩) (hb hby at_183) hr
   · exact ⟨rfl, Nc208⟩
  ·
   have p210 : ∀ t, St p e below Tc132 (mkF m 187 Ls144 [(.int (2 : Int32)), (.int (i4 &&& (3 : Int32)))]) t → S0 t := fun t k => p205 t (by
     show St p e below Tc132 (mkF m 173 Ls144 [(.int (1 : Int32)), (.int (i4 &&& (3 : Int32)))]) t
     refine XS.icmpYes Xc132.here hx rfl (pc0 := 173) (pc' := 184) rfl (hb hby at_173) rfl (feq g206).2 (by decide) (by decide) ?_
     show St p e below Tc132 (mkF m 184 Ls144 []) t
     refine XS.iload Xc132.here hx rfl (hb hby at_184) rfl ?_
     show St p e below Tc132 (mkF m 186 Ls144 [(.int (i4 &&& (3 : Int32)))]) t
     refine XT.iconstV Xc132.here hx rfl (2 : Int32) (hb hby at_186) (by decide) ?_
     exact k)
   by_cases g211 : (i4 &&& (3 : Int32)) = (2 : Int32)
   ·
    have p212 : ∀ t, St p e below Tc132 (mkF m 193 Ls144 [.null, (.ref o91)]) t → S0 t := fun t k => p210 t (by
      show St p e below Tc132 (mkF m 187 Ls144 [(.int (2 : Int32)), (.int (i4 &&& (3 : Int32)))]) t
      refine XS.icmpNo Xc132.here hx rfl (hb hby at_187) rfl (teq g211).2 ?_
      show St p e below Tc132 (mkF m 190 Ls144 []) t
      refine XS.aload Xc132.here hx rfl (hb hby at_190) rfl rfl ?_
      show St p e below Tc132 (mkF m 192 Ls144 [(.ref o91)]) t
      refine XS.aconstNull Xc132.here hx rfl (hb hby at_192) ?_
      exact k)
    obtain ⟨cqc213, kqc213, qc213a, qc213b, qc213c⟩ := isOf hZ rfl E_134
    obtain ⟨_, _, ⟨Tc213, Lc213, kc213, nc213⟩, -, Xc213, ⟨Lcc213, hQc213, lc213, yc213, zc213⟩, stc213⟩ := Xc132.virtualBack hx (y := M6) (z := M6) hown (mvT hZ (ww hw 30 rfl)) (mvT hZ (ww hw 31 rfl)) (notFace_of_selects (args := #[]) (mvT hZ (ww hw 33 rfl))) (mvT hZ (ww hw 33 rfl)) (mvT hZ (ww hw 32 rfl)) (by decide) (backOf (W := 0) (rm6_8 l Z a0 hw [] a_cache clC w2 w17 o91 Tc132.heap n0 O140 HE' gb_o91 E_134 F_135 F_136) hZ (ww hw 34 rfl) (ww hw 7 rfl) (by decide) (by decide)) qc213a qc213c (g := (mkF m 193 Ls144 [.null, (.ref o91)])) rfl (by rw [hml]; rfl) (Steps.refl _) (argsL := [.null]) (rest := []) (lenOf pd5 rfl) rfl (by show 2 * 0 + _ ≤ _; exact Nat.le_of_eq rfl) (hb hby at_193) (fun _ _ => ⟨rfl, rfl, (by decide : 3 + 0 ≤ _), (by decide : 5 + 0 ≤ _)⟩)
    dsimp only [Pt.U, Pt.locs, Pt.cells, Pt.slots] at Xc213 lc213 yc213 zc213 stc213 hQc213
    subst lc213 yc213 zc213
    obtain ⟨Nqc213, ec213, hAc213⟩ := hQc213
    have Nc213 := Fr.app Nc132 Nqc213
    obtain rfl := hAc213
    have p214 : ∀ t, St p e below Tc213 (mkF m 196 Ls144 [(.int (0 : Int32))]) t → S0 t := fun t k => p212 t (stc213.trans k)
    have p215 : ∀ t, St p e below Tc213 (mkF m 204 Ls144 [(.int (1 : Int32))]) t → S0 t := fun t k => p214 t (by
      show St p e below Tc213 (mkF m 196 Ls144 [(.int (0 : Int32))]) t
      refine XS.ifNo Xc213.here hx rfl (hb hby at_196) rfl ((if0 _ _).trans (teq (by decide : (0 : Int32) = (0 : Int32))).2) ?_
      show St p e below Tc213 (mkF m 199 Ls144 []) t
      refine XT.iconstV Xc213.here hx rfl (1 : Int32) (hb hby at_199) (by decide) ?_
      show St p e below Tc213 (mkF m 200 Ls144 [(.int (1 : Int32))]) t
      refine XS.goto Xc213.here hx rfl (pc0 := 200) (pc' := 204) rfl (hb hby at_200) (by decide) (by decide) ?_
      exact k)
    obtain ⟨fs, hr, hrun, hended, hW, hsame⟩ := Xc213.leave (v := some (.int (1 : Int32))) (fun h => by rw [Bd.returns] at h; cases h)
    refine ⟨_, _, p215 _ ?_, hrun, hended, _, _, rfl, ?_, ⟨_, rfl⟩, hW, hsame.mono (by decide) (by decide)⟩
    · exact retOut Xc213 hx Bd.returns rfl (Or.inl ⟨rfl, by simp, _, rfl⟩) (hb hby at_204) hr
    · exact ⟨rfl, Nc213⟩
   ·
    have p216 : ∀ t, St p e below Tc132 (mkF m 209 Ls144 [(.ref o4_c132), (.ref o91)]) t → S0 t := fun t k => p210 t (by
      show St p e below Tc132 (mkF m 187 Ls144 [(.int (2 : Int32)), (.int (i4 &&& (3 : Int32)))]) t
      refine XS.icmpYes Xc132.here hx rfl (pc0 := 187) (pc' := 205) rfl (hb hby at_187) rfl (feq g211).2 (by decide) (by decide) ?_
      show St p e below Tc132 (mkF m 205 Ls144 []) t
      refine XS.aload Xc132.here hx rfl (hb hby at_205) rfl rfl ?_
      show St p e below Tc132 (mkF m 207 Ls144 [(.ref o91)]) t
      refine XS.aload Xc132.here hx rfl (hb hby at_207) rfl rfl ?_
      exact k)
    obtain ⟨cqc217, kqc217, qc217a, qc217b, qc217c⟩ := isOf hZ rfl E_134
    obtain ⟨_, _, ⟨Tc217, Lc217, kc217, nc217⟩, -, Xc217, ⟨Lcc217, hQc217, lc217, yc217, zc217⟩, stc217⟩ := Xc132.virtualBack hx (y := M6) (z := M6) hown (mvT hZ (ww hw 30 rfl)) (mvT hZ (ww hw 31 rfl)) (notFace_of_selects (args := #[]) (mvT hZ (ww hw 33 rfl))) (mvT hZ (ww hw 33 rfl)) (mvT hZ (ww hw 32 rfl)) (by decide) (backOf (W := 0) (rm6_9 l Z a0 hw [] a_cache clC w2 w17 o91 o4_c132 Tc132.heap n0 O140 HE' gb_o91 (ne_exa E_134 f_133 (by decide)) E_134 F_135 F_136 f_133) hZ (ww hw 34 rfl) (ww hw 7 rfl) (by decide) (by decide)) qc217a qc217c (g := (mkF m 209 Ls144 [(.ref o4_c132), (.ref o91)])) rfl (by rw [hml]; rfl) (Steps.refl _) (argsL := [(.ref o4_c132)]) (rest := []) (lenOf pd5 rfl) rfl (by show 2 * 0 + _ ≤ _; exact Nat.le_of_eq rfl) (hb hby at_209) (fun _ _ => ⟨rfl, rfl, (by decide : 3 + 0 ≤ _), (by decide : 5 + 0 ≤ _)⟩)
    dsimp only [Pt.U, Pt.locs, Pt.cells, Pt.slots] at Xc217 lc217 yc217 zc217 stc217 hQc217
    subst lc217 yc217 zc217
    obtain ⟨Nqc217, ec217, hAc217⟩ := hQc217
    have Nc217 := Fr.app Nc132 Nqc217
    obtain rfl := hAc217
    have p218 : ∀ t, St p e below Tc217 (mkF m 212 Ls144 [(.int (0 : Int32))]) t → S0 t := fun t k => p216 t (stc217.trans k)
    have p219 : ∀ t, St p e below Tc217 (mkF m 220 Ls144 [(.int (1 : Int32))]) t → S0 t := fun t k => p218 t (by
      show St p e below Tc217 (mkF m 212 Ls144 [(.int (0 : Int32))]) t
      refine XS.ifNo Xc217.here hx rfl (hb hby at_212) rfl ((if0 _ _).trans (teq (by decide : (0 : Int32) = (0 : Int32))).2) ?_
      show St p e below Tc217 (mkF m 215 Ls144 []) t
      refine XT.iconstV Xc217.here hx rfl (1 : Int32) (hb hby at_215) (by decide) ?_
      show St p e below Tc217 (mkF m 216 Ls144 [(.int (1 : Int32))]) t
      refine XS.goto Xc217.here hx rfl (pc0 := 216) (pc' := 220) rfl (hb hby at_216) (by decide) (by decide) ?_
      exact k)
    obtain ⟨fs, hr, hrun, hended, hW, hsame⟩ := Xc217.leave (v := some (.int (1 : Int32))) (fun h => by rw [Bd.returns] at h; cases h)
    refine ⟨_, _, p219 _ ?_, hrun, hended, _, _, rfl, ?_, ⟨_, rfl⟩, hW, hsame.mono (by decide) (by decide)⟩
    · exact retOut Xc217 hx Bd.returns rfl (Or.inl ⟨rfl, by simp, _, rfl⟩) (hb hby at_220) hr
    · exact ⟨rfl, Nc217⟩
set_option maxRecDepth 65536 in
set_option maxHeartbeats 40000000 in
theorem comes_1 {Post : Tables → Env → Array Value → State → Outcome → State → Prop} (hpost : ∀ tb e args s v u, (limb_1_1.after args s (.returned v) u = true ∧ limb_1_2.after args s (.returned v) u = true ∧ True) → FrameEnd s (.returned v) u (Jvm.fieldLocs frame_1_writes args s ++ Jvm.arrayLocs frame_1_arrays args s ++ Jvm.staticLocs frame_1_statics s) 16 128 → Post tb e args s (.returned v) u) :
    ArmFor flags0 classFile x code maxLocals ret World_1 tables_1 room_1 Calls_1 rest_1 Pre_1 Post := by
  intro l hfl _ _ p e ha hc hk s m args below hf hA hF happ hP
  obtain ⟨hcalls, hrest, hpre⟩ := hP
  obtain ⟨-, -, -, hnamed, -, -, -, hat⟩ := (Spec.applies_iff hf).mp happ
  obtain ⟨hg, hn⟩ := and_e (Cond.before_iff.mp (show (Jvm.Cond.and given_1 narrow_1).before args s = true from hpre))
  obtain ⟨hj1a, hj1b⟩ := and_e hg
  obtain ⟨hj2a, hj2b⟩ := and_e hj1b
  obtain ⟨hj3a, hj3b⟩ := and_e hj2b
  obtain ⟨hj4a, hj4b⟩ := and_e hj3b
  obtain ⟨hj5a, hj5b⟩ := and_e hj4b
  obtain ⟨w0, w1, w2, w3, w4, rfl⟩ : ∃ w0 w1 w2 w3 w4 : Value, args = #[w0, w1, w2, w3, w4] := by
    have hs : args.size = 5 := by simpa [Cond.value, given_1] using hj1a
    obtain ⟨L⟩ := args
    match L, hs with
    | [w0, w1, w2, w3, w4], _ => exact ⟨w0, w1, w2, w3, w4, rfl⟩
  have hw := fun d (hd : d ∈ tables_1) => atoms_spec (ws := Jvm.Cond.code x code maxLocals ret :: tables_1) hat d (List.mem_cons_of_mem _ hd)
  have hfit : Fit s := fun {y c} hc i hi => by
    obtain ⟨ha, rfl⟩ := Array.getElem?_eq_some_iff.mp hc
    have q := List.all_eq_true.mp ((Array.all_eq_true_iff_forall_mem.mp hF) _ (Array.getElem_mem ha)) i (List.mem_range.mpr hi)
    simpa [Array.getElem?_eq_getElem hi] using q
  obtain ⟨hsets, hown0⟩ := atoms_of _ (rest_1_c_eq ▸ (show rest_1_c.before _ s = true from hrest))
  obtain ⟨i0, ei0⟩ := is_v hj2a
  obtain rfl : w0 = (.int i0) := Option.some.inj ei0
  obtain ⟨i1, ei1⟩ := is_v hj3a
  obtain rfl : w1 = (.int i1) := Option.some.inj ei1
  obtain ⟨i2, ei2⟩ := is_v hj4a
  obtain rfl : w2 = (.int i2) := Option.some.inj ei2
  obtain ⟨i3, ei3⟩ := is_v hj5a
  obtain rfl : w3 = (.int i3) := Option.some.inj ei3
  obtain ⟨i4, ei4⟩ := is_v hj5b
  obtain rfl : w4 = (.int i4) := Option.some.inj ei4
  have hSh : Sta s s.heap "java/lang/Integer$IntegerCache" "high" "I" (.int (127 : Int32)) := Sta.start (own_eqI (Cond.before_iff.mp (hsets _ (List.mem_of_getElem? (i := 3) rfl)))) (Or.inl (hsets _ (List.mem_of_getElem? (i := 1) rfl)))
  obtain ⟨a_cache, evc⟩ := arr_v (Cond.before_iff.mp (hsets _ (List.mem_of_getElem? (i := 4) rfl)))
  have hSc : Sta s s.heap "java/lang/Integer$IntegerCache" "cache" "[Ljava/lang/Integer;" (.ref a_cache) := Sta.start evc (Or.inr ⟨(ww hw 28 rfl), (hsets _ (List.mem_of_getElem? (i := 2) rfl))⟩)
  obtain ⟨clC, hAc⟩ := Arr.start evc (Cond.before_iff.mp (hsets _ (List.mem_of_getElem? (i := 4) rfl)))
  obtain ⟨hq31, hlen⟩ := own_len evc hAc (own_eqI (Cond.before_iff.mp (hsets _ (List.mem_of_getElem? (i := 6) rfl))))
  have hZc : clC.slots.size = (256 : Int32).toNatClampNeg := by rw [← hlen]; simp only [Int32.toNatClampNeg, len_toInt hq31]; rfl
  have hevc : ∀ idx, (Jvm.Term.static "java/lang/Integer$IntegerCache" "cache" "[Ljava/lang/Integer;").eval #[.int i0, .int i1, .int i2, .int i3, .int i4] s none idx s = some (.ref a_cache) := fun idx => evc
  have hTc : ∀ j : Int32, ¬ (j < (0 : Int32)) → j < (256 : Int32) → ∃ b : Addr, clC.slots[j.toNatClampNeg]? = some (.ref b) ∧ Exa s s.heap b "java/lang/Integer" := fun j n q => by
    obtain ⟨u1, -⟩ := and_e (Cond.all_elim evc (hAc.fin (Vm.Alike.refl _)) (Cond.before_iff.mp (hsets _ (List.mem_of_getElem? (i := 7) rfl))) j.toNatClampNeg (Nat.lt_of_not_le fun z => inb_of hZc ⟨n, q⟩ (Or.inr z)))
    obtain ⟨b, eb⟩ := exa_v u1
    exact ⟨b, (elem_f (t := (Jvm.Term.static "java/lang/Integer$IntegerCache" "cache" "[Ljava/lang/Integer;")) (hevc _) (idx_at n) (hAc.fin (Vm.Alike.refl _)) n).symm.trans eb, exa_at eb u1⟩
  obtain ⟨n, o, h1, h2, h3, _, L, rfl, ⟨rfl, N⟩, hq⟩ := rm0 l s _ hw tables_1 a_cache _ i0 i1 i2 i3 i4 s.heap s.heap.size (Old.start s) ⟨hSh, hSc, hAc, hZc, hTc⟩ p e ha hc hk s m _ below hf ((Spec.applies_iff_loose hf).mp happ).1 ⟨rfl, State.Warmed39.refl s, rfl⟩ trivial
  refine ⟨n, _, h1, h2, h3, hpost _ _ _ _ _ _ ⟨Cond.after_iff.mpr rfl, Cond.after_iff.mpr (eq_i res_at (Term.int_eval (1)) rfl), trivial⟩ ⟨hq.1, hq.2.1, (hq.2.2.sift fun y hy => Or.inr (N y hy)).mono (by decide) (by decide)⟩⟩
theorem main_1_1 : Claimed_1_1 := comes_1 fun _ _ _ _ _ _ h hF => ⟨h.1, hF⟩
theorem main_1_2 : Claimed_1_2 := comes_1 fun _ _ _ _ _ _ h hF => ⟨h.2.1, hF⟩
end Jvm.Pilot.@@N@@
namespace Jvm.Pilot.@@N@@
open Jvm Jvm.ClassFile Sem Op Lib Jvm.Free Jvm.Stand Jvm.Pilot.@@N@@.Jvm.D
/-! MADE BY PROGRAM (witnessworld.py) out of the Statement's table words and the real class files: 17 classes; the members and pool entries that the words name. The judged class is class 1, her method 2. -/
namespace start1
open Jvm.ClassFile
def u (s : String) : CpInfo := .utf8 (stringToUtf16 s)
/-- a pool by its gaps: so many unusable entries, then the entry; so many at the end -/
def gap : Nat → List CpInfo → List CpInfo
  | 0, r => r
  | n + 1, r => .unusable :: gap n r
def poolList (es : List (Nat × CpInfo)) (last : Nat) : List CpInfo := es.foldr (fun e r => gap e.1 (e.2 :: r)) (gap last [])
def pool (es : List (Nat × CpInfo)) (last : Nat) : Array CpInfo := ⟨poolList es last⟩
def fileOf (pool : Array CpInfo) (this : Nat) (attrs : Array Attribute := #[]) (ms : Array MethodInfo := #[]) (fl : Nat := 33) (sup : Nat := 0) (ifs : Array Nat := #[]) (fds : Array FieldInfo := #[]) : ClassFile where
  minorVersion := 0
  majorVersion := 65
  constantPool := pool
  accessFlags := fl
  thisClass := this
  superClass := sup
  interfaces := ifs
  fields := fds
  methods := ms
  attributes := attrs
def plain (name : String) (sup : Option ClassId) : Class where
  name := name
  kind := .ordinary
  loader := none
  accessFlags := 33
  super := sup
  interfaces := #[]
  cf := none
  fields := #[]
  methods := #[]
  instanceTypes := #[]
  staticTypes := #[]
  resolved := #[]
  callSites := []
  init := .initialized
  statics := none
  mirror := none

def pool0 : Array CpInfo := pool [(5, u "<init>"), (0, u "()V"), (1, .class_ 10), (1, u "java/lang/Object")] 113

def k0c0 : Code := { maxStack := 0, maxLocals := 1, code := object_method_1_code, exceptionTable := #[], attributes := #[] }
def k0m0 : Method := { name := "<init>", desc := "()V", sig := { parameters := [], returnType := none }, accessFlags := 1, code := some k0c0 }
/-- java/lang/Object -/
def k0 : Class := { plain "java/lang/Object" none with
  accessFlags := 33
  interfaces := #[]
  cf := some (fileOf pool0 8 #[] #[{ accessFlags := 1, nameIndex := 5, descriptorIndex := 6, attributes := #[] }] 33 0 #[] #[])
  fields := #[]
  methods := #[k0m0]
  instanceTypes := #[]
  staticTypes := #[]
  resolved := Array.replicate 124 none
  statics := none }

def pool1 : Array CpInfo := pool [(2, .class_ 4), (1, u "java/lang/Object"), (0, u "<init>"), (0, u "()V"), (0, .integer 2147483647), (0, .methodref 9 10), (0, .class_ 11), (0, .nameAndType 12 13), (0, u "dev/ambrotype/SizeEqualsPinLaw"), (0, u "side"), (0, u "(I)I"), (0, .class_ 15), (0, u "dev/ambrotype/Size"), (0, .methodref 14 17), (0, .nameAndType 5 18), (0, u "(II)V"), (0, .methodref 20 21), (0, .class_ 22), (0, .nameAndType 23 24), (0, u "java/lang/Integer"), (0, u "valueOf"), (0, u "(I)Ljava/lang/Integer;"), (0, .methodref 14 26), (0, .nameAndType 27 28), (0, u "equals"), (0, u "(Ljava/lang/Object;)Z"), (3, u "law"), (0, u "(IIIII)Z")] 2

def k1m0 : Method := { name := "<init>", desc := "()V", sig := { parameters := [], returnType := none }, accessFlags := 1, code := none }
def k1c1 : Code := { maxStack := 2, maxLocals := 2, code := method_2_code, exceptionTable := #[], attributes := #[] }
def k1m1 : Method := { name := "side", desc := "(I)I", sig := { parameters := [.int], returnType := some .int }, accessFlags := 10, code := some k1c1 }
def k1c2 : Code := { maxStack := 4, maxLocals := 16, code := code, exceptionTable := #[], attributes := #[] }
def k1m2 : Method := { name := "law", desc := "(IIIII)Z", sig := { parameters := [.int, .int, .int, .int, .int], returnType := some .boolean }, accessFlags := 9, code := some k1c2 }
/-- dev/ambrotype/SizeEqualsPinLaw -/
def k1 : Class := { plain "dev/ambrotype/SizeEqualsPinLaw" (some 0) with
  accessFlags := 49
  interfaces := #[]
  cf := some (fileOf pool1 9 #[] #[{ accessFlags := 1, nameIndex := 5, descriptorIndex := 6, attributes := #[] }, { accessFlags := 10, nameIndex := 12, descriptorIndex := 13, attributes := #[] }, { accessFlags := 9, nameIndex := 32, descriptorIndex := 33, attributes := #[] }] 49 2 #[] #[])
  fields := #[]
  methods := #[k1m0, k1m1, k1m2]
  instanceTypes := #[]
  staticTypes := #[]
  resolved := Array.replicate 36 none
  statics := none }

def pool2 : Array CpInfo := pool [(1, .methodref 2 3), (0, .class_ 4), (0, .nameAndType 5 6), (0, u "java/lang/Object"), (0, u "<init>"), (0, u "()V"), (0, .class_ 8), (0, u "java/lang/Record")] 13

def k2c0 : Code := { maxStack := 1, maxLocals := 1, code := jdk_30_method_1_code, exceptionTable := #[], attributes := #[] }
def k2m0 : Method := { name := "<init>", desc := "()V", sig := { parameters := [], returnType := none }, accessFlags := 4, code := some k2c0 }
/-- java/lang/Record -/
def k2 : Class := { plain "java/lang/Record" (some 0) with
  accessFlags := 1057
  interfaces := #[]
  cf := some (fileOf pool2 7 #[] #[{ accessFlags := 4, nameIndex := 5, descriptorIndex := 6, attributes := #[] }] 1057 2 #[] #[])
  fields := #[]
  methods := #[k2m0]
  instanceTypes := #[]
  staticTypes := #[]
  resolved := Array.replicate 22 none
  statics := none }

def pool3 : Array CpInfo := pool [(1, .methodref 2 3), (0, .class_ 4), (0, .nameAndType 5 6), (0, u "java/lang/Record"), (0, u "<init>"), (0, u "()V"), (9, .fieldref 17 18), (0, .class_ 19), (0, .nameAndType 20 21), (0, u "dev/ambrotype/Size"), (0, u "width"), (0, u "I"), (0, .fieldref 17 23), (0, .nameAndType 24 21), (0, u "height"), (2, u "FORM"), (0, u "Ljava/util/regex/Pattern;"), (27, u "(II)V"), (43, u "equals"), (0, u "(Ljava/lang/Object;)Z")] 27

def k3c0 : Code := { maxStack := 4, maxLocals := 3, code := prog_23_method_1_code, exceptionTable := #[], attributes := #[] }
def k3m0 : Method := { name := "<init>", desc := "(II)V", sig := { parameters := [.int, .int], returnType := none }, accessFlags := 1, code := some k3c0 }
def k3c1 : Code := { maxStack := 2, maxLocals := 3, code := prog_23_method_8_code, exceptionTable := #[], attributes := #[] }
def k3m1 : Method := { name := "equals", desc := "(Ljava/lang/Object;)Z", sig := { parameters := [(.object "java/lang/Object")], returnType := some .boolean }, accessFlags := 1, code := some k3c1 }
/-- dev/ambrotype/Size -/
def k3 : Class := { plain "dev/ambrotype/Size" (some 2) with
  accessFlags := 49
  interfaces := #[]
  cf := some (fileOf pool3 17 #[] #[{ accessFlags := 1, nameIndex := 5, descriptorIndex := 56, attributes := #[] }, { accessFlags := 1, nameIndex := 100, descriptorIndex := 101, attributes := #[] }] 49 2 #[] #[{ accessFlags := 18, nameIndex := 20, descriptorIndex := 21, attributes := #[] }, { accessFlags := 18, nameIndex := 24, descriptorIndex := 21, attributes := #[] }, { accessFlags := 26, nameIndex := 27, descriptorIndex := 28, attributes := #[] }])
  fields := #[{ name := "width", type := .int, accessFlags := 18, slot := 0, constantValue := 0 }, { name := "height", type := .int, accessFlags := 18, slot := 1, constantValue := 0 }, { name := "FORM", type := (.object "java/util/regex/Pattern"), accessFlags := 26, slot := 0, constantValue := 0 }]
  methods := #[k3m0, k3m1]
  instanceTypes := #[.int, .int]
  staticTypes := #[(.object "java/util/regex/Pattern")]
  resolved := Array.replicate 129 none
  statics := none }

def pool4 : Array CpInfo := pool [(1, .class_ 2), (0, u "java/io/Serializable"), (0, .class_ 4), (0, u "java/lang/Object")] 2

/-- java/io/Serializable -/
def k4 : Class := { plain "java/io/Serializable" (some 0) with
  accessFlags := 1537
  interfaces := #[]
  cf := some (fileOf pool4 1 #[] #[] 1537 3 #[] #[])
  fields := #[]
  methods := #[]
  instanceTypes := #[]
  staticTypes := #[]
  resolved := Array.replicate 7 none
  statics := none }

def pool5 : Array CpInfo := pool [(1, .methodref 2 3), (0, .class_ 4), (0, .nameAndType 5 6), (0, u "java/lang/Object"), (0, u "<init>"), (0, u "()V"), (1, .class_ 10), (1, u "java/lang/Number"), (2, .class_ 14), (0, u "java/io/Serializable"), (0, u "serialVersionUID"), (0, u "J")] 20

def k5c0 : Code := { maxStack := 1, maxLocals := 1, code := jdk_18_method_1_code, exceptionTable := #[], attributes := #[] }
def k5m0 : Method := { name := "<init>", desc := "()V", sig := { parameters := [], returnType := none }, accessFlags := 1, code := some k5c0 }
/-- java/lang/Number -/
def k5 : Class := { plain "java/lang/Number" (some 0) with
  accessFlags := 1057
  interfaces := #[4]
  cf := some (fileOf pool5 8 #[] #[{ accessFlags := 1, nameIndex := 5, descriptorIndex := 6, attributes := #[] }] 1057 2 #[13] #[{ accessFlags := 26, nameIndex := 15, descriptorIndex := 16, attributes := #[] }])
  fields := #[{ name := "serialVersionUID", type := .long, accessFlags := 26, slot := 0, constantValue := 0 }]
  methods := #[k5m0]
  instanceTypes := #[]
  staticTypes := #[.long]
  resolved := Array.replicate 37 none
  statics := none }

def pool6 : Array CpInfo := pool [(1, .class_ 2), (0, u "java/lang/Comparable"), (0, .class_ 4), (0, u "java/lang/Object")] 7

/-- java/lang/Comparable -/
def k6 : Class := { plain "java/lang/Comparable" (some 0) with
  accessFlags := 1537
  interfaces := #[]
  cf := some (fileOf pool6 1 #[] #[] 1537 3 #[] #[])
  fields := #[]
  methods := #[]
  instanceTypes := #[]
  staticTypes := #[]
  resolved := Array.replicate 12 none
  statics := none }

def pool7 : Array CpInfo := pool [(1, .class_ 2), (0, u "java/lang/constant/Constable"), (0, .class_ 4), (0, u "java/lang/Object")] 6

/-- java/lang/constant/Constable -/
def k7 : Class := { plain "java/lang/constant/Constable" (some 0) with
  accessFlags := 1537
  interfaces := #[]
  cf := some (fileOf pool7 1 #[] #[] 1537 3 #[] #[])
  fields := #[]
  methods := #[]
  instanceTypes := #[]
  staticTypes := #[]
  resolved := Array.replicate 11 none
  statics := none }

def pool8 : Array CpInfo := pool [(1, .class_ 2), (0, u "java/lang/constant/ConstantDesc"), (0, .class_ 4), (0, u "java/lang/Object")] 32

/-- java/lang/constant/ConstantDesc -/
def k8 : Class := { plain "java/lang/constant/ConstantDesc" (some 0) with
  accessFlags := 1537
  interfaces := #[]
  cf := some (fileOf pool8 1 #[] #[] 1537 3 #[] #[])
  fields := #[]
  methods := #[]
  instanceTypes := #[]
  staticTypes := #[]
  resolved := Array.replicate 37 none
  statics := none }

def pool9 : Array CpInfo := pool [(1, .class_ 2), (0, u "java/lang/Integer"), (16, u "digits"), (0, u "[C"), (46, u "<init>"), (17, u "DigitOnes"), (0, u "[B"), (2, u "DigitTens"), (10, .nameAndType 67 101), (0, u "()V"), (85, u "valueOf"), (0, u "(I)Ljava/lang/Integer;"), (0, .class_ 190), (0, u "java/lang/Integer$IntegerCache"), (0, .fieldref 189 192), (0, .nameAndType 193 194), (0, u "high"), (0, u "I"), (0, .fieldref 189 196), (0, .nameAndType 197 198), (0, u "cache"), (0, u "[Ljava/lang/Integer;"), (0, .methodref 1 200), (0, .nameAndType 67 201), (0, u "(I)V"), (0, .methodref 203 100), (0, .class_ 204), (0, u "java/lang/Number"), (0, .fieldref 1 206), (0, .nameAndType 207 194), (0, u "value"), (94, u "TYPE"), (0, u "Ljava/lang/Class;"), (0, .class_ 305), (0, u "java/lang/Comparable"), (0, .class_ 307), (0, u "java/lang/constant/Constable"), (0, .class_ 309), (0, u "java/lang/constant/ConstantDesc"), (0, u "MIN_VALUE"), (1, u "MAX_VALUE"), (3, u "SIZE"), (1, u "BYTES"), (1, u "serialVersionUID"), (0, u "J")] 131

def k9c0 : Code := { maxStack := 3, maxLocals := 1, code := jdk_33_method_22_code, exceptionTable := #[], attributes := #[] }
def k9m0 : Method := { name := "valueOf", desc := "(I)Ljava/lang/Integer;", sig := { parameters := [.int], returnType := some (.object "java/lang/Integer") }, accessFlags := 9, code := some k9c0 }
def k9c1 : Code := { maxStack := 2, maxLocals := 2, code := jdk_33_method_23_code, exceptionTable := #[], attributes := #[] }
def k9m1 : Method := { name := "<init>", desc := "(I)V", sig := { parameters := [.int], returnType := none }, accessFlags := 1, code := some k9c1 }
/-- java/lang/Integer -/
def k9 : Class := { plain "java/lang/Integer" (some 5) with
  accessFlags := 49
  interfaces := #[6, 7, 8]
  cf := some (fileOf pool9 1 #[.nestMembers #[189]] #[{ accessFlags := 9, nameIndex := 187, descriptorIndex := 188, attributes := #[] }, { accessFlags := 1, nameIndex := 67, descriptorIndex := 201, attributes := #[] }] 49 203 #[304, 306, 308] #[{ accessFlags := 25, nameIndex := 310, descriptorIndex := 194, attributes := #[] }, { accessFlags := 25, nameIndex := 312, descriptorIndex := 194, attributes := #[] }, { accessFlags := 25, nameIndex := 302, descriptorIndex := 303, attributes := #[] }, { accessFlags := 24, nameIndex := 19, descriptorIndex := 20, attributes := #[] }, { accessFlags := 24, nameIndex := 89, descriptorIndex := 86, attributes := #[] }, { accessFlags := 24, nameIndex := 85, descriptorIndex := 86, attributes := #[] }, { accessFlags := 18, nameIndex := 207, descriptorIndex := 194, attributes := #[] }, { accessFlags := 25, nameIndex := 316, descriptorIndex := 194, attributes := #[] }, { accessFlags := 25, nameIndex := 318, descriptorIndex := 194, attributes := #[] }, { accessFlags := 26, nameIndex := 320, descriptorIndex := 321, attributes := #[] }])
  fields := #[{ name := "MIN_VALUE", type := .int, accessFlags := 25, slot := 0, constantValue := 0 }, { name := "MAX_VALUE", type := .int, accessFlags := 25, slot := 1, constantValue := 0 }, { name := "TYPE", type := (.object "java/lang/Class"), accessFlags := 25, slot := 2, constantValue := 0 }, { name := "digits", type := (.array .char), accessFlags := 24, slot := 3, constantValue := 0 }, { name := "DigitTens", type := (.array .byte), accessFlags := 24, slot := 4, constantValue := 0 }, { name := "DigitOnes", type := (.array .byte), accessFlags := 24, slot := 5, constantValue := 0 }, { name := "value", type := .int, accessFlags := 18, slot := 0, constantValue := 0 }, { name := "SIZE", type := .int, accessFlags := 25, slot := 6, constantValue := 0 }, { name := "BYTES", type := .int, accessFlags := 25, slot := 7, constantValue := 0 }, { name := "serialVersionUID", type := .long, accessFlags := 26, slot := 8, constantValue := 0 }]
  methods := #[k9m0, k9m1]
  instanceTypes := #[.int]
  staticTypes := #[.int, .int, (.object "java/lang/Class"), (.array .char), (.array .byte), (.array .byte), .int, .int, .long]
  resolved := Array.replicate 453 none
  statics := none }

def pool10 : Array CpInfo := pool [(2, .class_ 4), (1, u "java/lang/Object"), (0, u "<init>"), (0, u "()V"), (0, .class_ 8), (0, u "java/lang/Integer"), (7, .class_ 18), (1, u "java/lang/Integer$IntegerCache"), (0, u "$assertionsDisabled"), (0, u "Z"), (26, u "high"), (0, u "I"), (8, u "archivedCache"), (0, u "[Ljava/lang/Integer;"), (12, u "cache"), (0, u "low")] 27

def k10m0 : Method := { name := "<init>", desc := "()V", sig := { parameters := [], returnType := none }, accessFlags := 2, code := none }
/-- java/lang/Integer$IntegerCache -/
def k10 : Class := { plain "java/lang/Integer$IntegerCache" (some 0) with
  accessFlags := 48
  interfaces := #[]
  cf := some (fileOf pool10 16 #[.nestHost 7] #[{ accessFlags := 2, nameIndex := 5, descriptorIndex := 6, attributes := #[] }] 48 2 #[] #[{ accessFlags := 24, nameIndex := 72, descriptorIndex := 48, attributes := #[] }, { accessFlags := 24, nameIndex := 47, descriptorIndex := 48, attributes := #[] }, { accessFlags := 24, nameIndex := 71, descriptorIndex := 58, attributes := #[] }, { accessFlags := 8, nameIndex := 57, descriptorIndex := 58, attributes := #[] }, { accessFlags := 4120, nameIndex := 19, descriptorIndex := 20, attributes := #[] }])
  fields := #[{ name := "low", type := .int, accessFlags := 24, slot := 0, constantValue := 0 }, { name := "high", type := .int, accessFlags := 24, slot := 1, constantValue := 0 }, { name := "cache", type := (.array (.object "java/lang/Integer")), accessFlags := 24, slot := 2, constantValue := 0 }, { name := "archivedCache", type := (.array (.object "java/lang/Integer")), accessFlags := 8, slot := 3, constantValue := 0 }, { name := "$assertionsDisabled", type := .boolean, accessFlags := 4120, slot := 4, constantValue := 0 }]
  methods := #[k10m0]
  instanceTypes := #[]
  staticTypes := #[.int, .int, (.array (.object "java/lang/Integer")), (.array (.object "java/lang/Integer")), .boolean]
  resolved := Array.replicate 100 none
  statics := some 0 }

def pool11 : Array CpInfo := pool [(1, u "java/lang/Cloneable"), (0, .class_ 1), (0, u "java/lang/Object"), (0, .class_ 3)] 3

/-- java/lang/Cloneable -/
def k11 : Class := { plain "java/lang/Cloneable" (some 0) with
  accessFlags := 1537
  interfaces := #[]
  cf := some (fileOf pool11 2 #[] #[] 1537 4 #[] #[])
  fields := #[]
  methods := #[]
  instanceTypes := #[]
  staticTypes := #[]
  resolved := Array.replicate 8 none
  statics := none }

/-- the primitive byte -/
def k12 : Class := { plain "byte" none with kind := .primitive 'B', accessFlags := 0x411 }
/-- [B -/
def k13 : Class := { plain "[B" (some 0) with kind := .array 12 .byte, interfaces := #[11, 4], accessFlags := 1041 }

/-- the primitive int -/
def k14 : Class := { plain "int" none with kind := .primitive 'I', accessFlags := 0x411 }
/-- [I -/
def k15 : Class := { plain "[I" (some 0) with kind := .array 14 .int, interfaces := #[11, 4], accessFlags := 1041 }

/-- [Ljava/lang/Integer; -/
def k16 : Class := { plain "[Ljava/lang/Integer;" (some 0) with kind := .array 9 (.object "java/lang/Integer"), interfaces := #[11, 4], accessFlags := 1041 }

def heap : Heap := #[{ cls := 10, slots := #[.int 0, .int 127, .ref 1, .null, .int 0], vm := .statics 10 },
  { cls := 16, slots := #[.ref 2, .ref 3, .ref 4, .ref 5, .ref 6, .ref 7, .ref 8, .ref 9, .ref 10, .ref 11, .ref 12, .ref 13, .ref 14, .ref 15, .ref 16, .ref 17, .ref 18, .ref 19, .ref 20, .ref 21, .ref 22, .ref 23, .ref 24, .ref 25, .ref 26, .ref 27, .ref 28, .ref 29, .ref 30, .ref 31, .ref 32, .ref 33, .ref 34, .ref 35, .ref 36, .ref 37, .ref 38, .ref 39, .ref 40, .ref 41, .ref 42, .ref 43, .ref 44, .ref 45, .ref 46, .ref 47, .ref 48, .ref 49, .ref 50, .ref 51, .ref 52, .ref 53, .ref 54, .ref 55, .ref 56, .ref 57, .ref 58, .ref 59, .ref 60, .ref 61, .ref 62, .ref 63, .ref 64, .ref 65, .ref 66, .ref 67, .ref 68, .ref 69, .ref 70, .ref 71, .ref 72, .ref 73, .ref 74, .ref 75, .ref 76, .ref 77, .ref 78, .ref 79, .ref 80, .ref 81, .ref 82, .ref 83, .ref 84, .ref 85, .ref 86, .ref 87, .ref 88, .ref 89, .ref 90, .ref 91, .ref 92, .ref 93, .ref 94, .ref 95, .ref 96, .ref 97, .ref 98, .ref 99, .ref 100, .ref 101, .ref 102, .ref 103, .ref 104, .ref 105, .ref 106, .ref 107, .ref 108, .ref 109, .ref 110, .ref 111, .ref 112, .ref 113, .ref 114, .ref 115, .ref 116, .ref 117, .ref 118, .ref 119, .ref 120, .ref 121, .ref 122, .ref 123, .ref 124, .ref 125, .ref 126, .ref 127, .ref 128, .ref 129, .ref 130, .ref 131, .ref 132, .ref 133, .ref 134, .ref 135, .ref 136, .ref 137, .ref 138, .ref 139, .ref 140, .ref 141, .ref 142, .ref 143, .ref 144, .ref 145, .ref 146, .ref 147, .ref 148, .ref 149, .ref 150, .ref 151, .ref 152, .ref 153, .ref 154, .ref 155, .ref 156, .ref 157, .ref 158, .ref 159, .ref 160, .ref 161, .ref 162, .ref 163, .ref 164, .ref 165, .ref 166, .ref 167, .ref 168, .ref 169, .ref 170, .ref 171, .ref 172, .ref 173, .ref 174, .ref 175, .ref 176, .ref 177, .ref 178, .ref 179, .ref 180, .ref 181, .ref 182, .ref 183, .ref 184, .ref 185, .ref 186, .ref 187, .ref 188, .ref 189, .ref 190, .ref 191, .ref 192, .ref 193, .ref 194, .ref 195, .ref 196, .ref 197, .ref 198, .ref 199, .ref 200, .ref 201, .ref 202, .ref 203, .ref 204, .ref 205, .ref 206, .ref 207, .ref 208, .ref 209, .ref 210, .ref 211, .ref 212, .ref 213, .ref 214, .ref 215, .ref 216, .ref 217, .ref 218, .ref 219, .ref 220, .ref 221, .ref 222, .ref 223, .ref 224, .ref 225, .ref 226, .ref 227, .ref 228, .ref 229, .ref 230, .ref 231, .ref 232, .ref 233, .ref 234, .ref 235, .ref 236, .ref 237, .ref 238, .ref 239, .ref 240, .ref 241, .ref 242, .ref 243, .ref 244, .ref 245, .ref 246, .ref 247, .ref 248, .ref 249, .ref 250, .ref 251, .ref 252, .ref 253, .ref 254, .ref 255, .ref 256, .ref 257], vm := .none },
  { cls := 9, slots := #[.int (-128)], vm := .none },
  { cls := 9, slots := #[.int (-127)], vm := .none },
  { cls := 9, slots := #[.int (-126)], vm := .none },
  { cls := 9, slots := #[.int (-125)], vm := .none },
  { cls := 9, slots := #[.int (-124)], vm := .none },
  { cls := 9, slots := #[.int (-123)], vm := .none },
  { cls := 9, slots := #[.int (-122)], vm := .none },
  { cls := 9, slots := #[.int (-121)], vm := .none },
  { cls := 9, slots := #[.int (-120)], vm := .none },
  { cls := 9, slots := #[.int (-119)], vm := .none },
  { cls := 9, slots := #[.int (-118)], vm := .none },
  { cls := 9, slots := #[.int (-117)], vm := .none },
  { cls := 9, slots := #[.int (-116)], vm := .none },
  { cls := 9, slots := #[.int (-115)], vm := .none },
  { cls := 9, slots := #[.int (-114)], vm := .none },
  { cls := 9, slots := #[.int (-113)], vm := .none },
  { cls := 9, slots := #[.int (-112)], vm := .none },
  { cls := 9, slots := #[.int (-111)], vm := .none },
  { cls := 9, slots := #[.int (-110)], vm := .none },
  { cls := 9, slots := #[.int (-109)], vm := .none },
  { cls := 9, slots := #[.int (-108)], vm := .none },
  { cls := 9, slots := #[.int (-107)], vm := .none },
  { cls := 9, slots := #[.int (-106)], vm := .none },
  { cls := 9, slots := #[.int (-105)], vm := .none },
  { cls := 9, slots := #[.int (-104)], vm := .none },
  { cls := 9, slots := #[.int (-103)], vm := .none },
  { cls := 9, slots := #[.int (-102)], vm := .none },
  { cls := 9, slots := #[.int (-101)], vm := .none },
  { cls := 9, slots := #[.int (-100)], vm := .none },
  { cls := 9, slots := #[.int (-99)], vm := .none },
  { cls := 9, slots := #[.int (-98)], vm := .none },
  { cls := 9, slots := #[.int (-97)], vm := .none },
  { cls := 9, slots := #[.int (-96)], vm := .none },
  { cls := 9, slots := #[.int (-95)], vm := .none },
  { cls := 9, slots := #[.int (-94)], vm := .none },
  { cls := 9, slots := #[.int (-93)], vm := .none },
  { cls := 9, slots := #[.int (-92)], vm := .none },
  { cls := 9, slots := #[.int (-91)], vm := .none },
  { cls := 9, slots := #[.int (-90)], vm := .none },
  { cls := 9, slots := #[.int (-89)], vm := .none },
  { cls := 9, slots := #[.int (-88)], vm := .none },
  { cls := 9, slots := #[.int (-87)], vm := .none },
  { cls := 9, slots := #[.int (-86)], vm := .none },
  { cls := 9, slots := #[.int (-85)], vm := .none },
  { cls := 9, slots := #[.int (-84)], vm := .none },
  { cls := 9, slots := #[.int (-83)], vm := .none },
  { cls := 9, slots := #[.int (-82)], vm := .none },
  { cls := 9, slots := #[.int (-81)], vm := .none },
  { cls := 9, slots := #[.int (-80)], vm := .none },
  { cls := 9, slots := #[.int (-79)], vm := .none },
  { cls := 9, slots := #[.int (-78)], vm := .none },
  { cls := 9, slots := #[.int (-77)], vm := .none },
  { cls := 9, slots := #[.int (-76)], vm := .none },
  { cls := 9, slots := #[.int (-75)], vm := .none },
  { cls := 9, slots := #[.int (-74)], vm := .none },
  { cls := 9, slots := #[.int (-73)], vm := .none },
  { cls := 9, slots := #[.int (-72)], vm := .none },
  { cls := 9, slots := #[.int (-71)], vm := .none },
  { cls := 9, slots := #[.int (-70)], vm := .none },
  { cls := 9, slots := #[.int (-69)], vm := .none },
  { cls := 9, slots := #[.int (-68)], vm := .none },
  { cls := 9, slots := #[.int (-67)], vm := .none },
  { cls := 9, slots := #[.int (-66)], vm := .none },
  { cls := 9, slots := #[.int (-65)], vm := .none },
  { cls := 9, slots := #[.int (-64)], vm := .none },
  { cls := 9, slots := #[.int (-63)], vm := .none },
  { cls := 9, slots := #[.int (-62)], vm := .none },
  { cls := 9, slots := #[.int (-61)], vm := .none },
  { cls := 9, slots := #[.int (-60)], vm := .none },
  { cls := 9, slots := #[.int (-59)], vm := .none },
  { cls := 9, slots := #[.int (-58)], vm := .none },
  { cls := 9, slots := #[.int (-57)], vm := .none },
  { cls := 9, slots := #[.int (-56)], vm := .none },
  { cls := 9, slots := #[.int (-55)], vm := .none },
  { cls := 9, slots := #[.int (-54)], vm := .none },
  { cls := 9, slots := #[.int (-53)], vm := .none },
  { cls := 9, slots := #[.int (-52)], vm := .none },
  { cls := 9, slots := #[.int (-51)], vm := .none },
  { cls := 9, slots := #[.int (-50)], vm := .none },
  { cls := 9, slots := #[.int (-49)], vm := .none },
  { cls := 9, slots := #[.int (-48)], vm := .none },
  { cls := 9, slots := #[.int (-47)], vm := .none },
  { cls := 9, slots := #[.int (-46)], vm := .none },
  { cls := 9, slots := #[.int (-45)], vm := .none },
  { cls := 9, slots := #[.int (-44)], vm := .none },
  { cls := 9, slots := #[.int (-43)], vm := .none },
  { cls := 9, slots := #[.int (-42)], vm := .none },
  { cls := 9, slots := #[.int (-41)], vm := .none },
  { cls := 9, slots := #[.int (-40)], vm := .none },
  { cls := 9, slots := #[.int (-39)], vm := .none },
  { cls := 9, slots := #[.int (-38)], vm := .none },
  { cls := 9, slots := #[.int (-37)], vm := .none },
  { cls := 9, slots := #[.int (-36)], vm := .none },
  { cls := 9, slots := #[.int (-35)], vm := .none },
  { cls := 9, slots := #[.int (-34)], vm := .none },
  { cls := 9, slots := #[.int (-33)], vm := .none },
  { cls := 9, slots := #[.int (-32)], vm := .none },
  { cls := 9, slots := #[.int (-31)], vm := .none },
  { cls := 9, slots := #[.int (-30)], vm := .none },
  { cls := 9, slots := #[.int (-29)], vm := .none },
  { cls := 9, slots := #[.int (-28)], vm := .none },
  { cls := 9, slots := #[.int (-27)], vm := .none },
  { cls := 9, slots := #[.int (-26)], vm := .none },
  { cls := 9, slots := #[.int (-25)], vm := .none },
  { cls := 9, slots := #[.int (-24)], vm := .none },
  { cls := 9, slots := #[.int (-23)], vm := .none },
  { cls := 9, slots := #[.int (-22)], vm := .none },
  { cls := 9, slots := #[.int (-21)], vm := .none },
  { cls := 9, slots := #[.int (-20)], vm := .none },
  { cls := 9, slots := #[.int (-19)], vm := .none },
  { cls := 9, slots := #[.int (-18)], vm := .none },
  { cls := 9, slots := #[.int (-17)], vm := .none },
  { cls := 9, slots := #[.int (-16)], vm := .none },
  { cls := 9, slots := #[.int (-15)], vm := .none },
  { cls := 9, slots := #[.int (-14)], vm := .none },
  { cls := 9, slots := #[.int (-13)], vm := .none },
  { cls := 9, slots := #[.int (-12)], vm := .none },
  { cls := 9, slots := #[.int (-11)], vm := .none },
  { cls := 9, slots := #[.int (-10)], vm := .none },
  { cls := 9, slots := #[.int (-9)], vm := .none },
  { cls := 9, slots := #[.int (-8)], vm := .none },
  { cls := 9, slots := #[.int (-7)], vm := .none },
  { cls := 9, slots := #[.int (-6)], vm := .none },
  { cls := 9, slots := #[.int (-5)], vm := .none },
  { cls := 9, slots := #[.int (-4)], vm := .none },
  { cls := 9, slots := #[.int (-3)], vm := .none },
  { cls := 9, slots := #[.int (-2)], vm := .none },
  { cls := 9, slots := #[.int (-1)], vm := .none },
  { cls := 9, slots := #[.int 0], vm := .none },
  { cls := 9, slots := #[.int 1], vm := .none },
  { cls := 9, slots := #[.int 2], vm := .none },
  { cls := 9, slots := #[.int 3], vm := .none },
  { cls := 9, slots := #[.int 4], vm := .none },
  { cls := 9, slots := #[.int 5], vm := .none },
  { cls := 9, slots := #[.int 6], vm := .none },
  { cls := 9, slots := #[.int 7], vm := .none },
  { cls := 9, slots := #[.int 8], vm := .none },
  { cls := 9, slots := #[.int 9], vm := .none },
  { cls := 9, slots := #[.int 10], vm := .none },
  { cls := 9, slots := #[.int 11], vm := .none },
  { cls := 9, slots := #[.int 12], vm := .none },
  { cls := 9, slots := #[.int 13], vm := .none },
  { cls := 9, slots := #[.int 14], vm := .none },
  { cls := 9, slots := #[.int 15], vm := .none },
  { cls := 9, slots := #[.int 16], vm := .none },
  { cls := 9, slots := #[.int 17], vm := .none },
  { cls := 9, slots := #[.int 18], vm := .none },
  { cls := 9, slots := #[.int 19], vm := .none },
  { cls := 9, slots := #[.int 20], vm := .none },
  { cls := 9, slots := #[.int 21], vm := .none },
  { cls := 9, slots := #[.int 22], vm := .none },
  { cls := 9, slots := #[.int 23], vm := .none },
  { cls := 9, slots := #[.int 24], vm := .none },
  { cls := 9, slots := #[.int 25], vm := .none },
  { cls := 9, slots := #[.int 26], vm := .none },
  { cls := 9, slots := #[.int 27], vm := .none },
  { cls := 9, slots := #[.int 28], vm := .none },
  { cls := 9, slots := #[.int 29], vm := .none },
  { cls := 9, slots := #[.int 30], vm := .none },
  { cls := 9, slots := #[.int 31], vm := .none },
  { cls := 9, slots := #[.int 32], vm := .none },
  { cls := 9, slots := #[.int 33], vm := .none },
  { cls := 9, slots := #[.int 34], vm := .none },
  { cls := 9, slots := #[.int 35], vm := .none },
  { cls := 9, slots := #[.int 36], vm := .none },
  { cls := 9, slots := #[.int 37], vm := .none },
  { cls := 9, slots := #[.int 38], vm := .none },
  { cls := 9, slots := #[.int 39], vm := .none },
  { cls := 9, slots := #[.int 40], vm := .none },
  { cls := 9, slots := #[.int 41], vm := .none },
  { cls := 9, slots := #[.int 42], vm := .none },
  { cls := 9, slots := #[.int 43], vm := .none },
  { cls := 9, slots := #[.int 44], vm := .none },
  { cls := 9, slots := #[.int 45], vm := .none },
  { cls := 9, slots := #[.int 46], vm := .none },
  { cls := 9, slots := #[.int 47], vm := .none },
  { cls := 9, slots := #[.int 48], vm := .none },
  { cls := 9, slots := #[.int 49], vm := .none },
  { cls := 9, slots := #[.int 50], vm := .none },
  { cls := 9, slots := #[.int 51], vm := .none },
  { cls := 9, slots := #[.int 52], vm := .none },
  { cls := 9, slots := #[.int 53], vm := .none },
  { cls := 9, slots := #[.int 54], vm := .none },
  { cls := 9, slots := #[.int 55], vm := .none },
  { cls := 9, slots := #[.int 56], vm := .none },
  { cls := 9, slots := #[.int 57], vm := .none },
  { cls := 9, slots := #[.int 58], vm := .none },
  { cls := 9, slots := #[.int 59], vm := .none },
  { cls := 9, slots := #[.int 60], vm := .none },
  { cls := 9, slots := #[.int 61], vm := .none },
  { cls := 9, slots := #[.int 62], vm := .none },
  { cls := 9, slots := #[.int 63], vm := .none },
  { cls := 9, slots := #[.int 64], vm := .none },
  { cls := 9, slots := #[.int 65], vm := .none },
  { cls := 9, slots := #[.int 66], vm := .none },
  { cls := 9, slots := #[.int 67], vm := .none },
  { cls := 9, slots := #[.int 68], vm := .none },
  { cls := 9, slots := #[.int 69], vm := .none },
  { cls := 9, slots := #[.int 70], vm := .none },
  { cls := 9, slots := #[.int 71], vm := .none },
  { cls := 9, slots := #[.int 72], vm := .none },
  { cls := 9, slots := #[.int 73], vm := .none },
  { cls := 9, slots := #[.int 74], vm := .none },
  { cls := 9, slots := #[.int 75], vm := .none },
  { cls := 9, slots := #[.int 76], vm := .none },
  { cls := 9, slots := #[.int 77], vm := .none },
  { cls := 9, slots := #[.int 78], vm := .none },
  { cls := 9, slots := #[.int 79], vm := .none },
  { cls := 9, slots := #[.int 80], vm := .none },
  { cls := 9, slots := #[.int 81], vm := .none },
  { cls := 9, slots := #[.int 82], vm := .none },
  { cls := 9, slots := #[.int 83], vm := .none },
  { cls := 9, slots := #[.int 84], vm := .none },
  { cls := 9, slots := #[.int 85], vm := .none },
  { cls := 9, slots := #[.int 86], vm := .none },
  { cls := 9, slots := #[.int 87], vm := .none },
  { cls := 9, slots := #[.int 88], vm := .none },
  { cls := 9, slots := #[.int 89], vm := .none },
  { cls := 9, slots := #[.int 90], vm := .none },
  { cls := 9, slots := #[.int 91], vm := .none },
  { cls := 9, slots := #[.int 92], vm := .none },
  { cls := 9, slots := #[.int 93], vm := .none },
  { cls := 9, slots := #[.int 94], vm := .none },
  { cls := 9, slots := #[.int 95], vm := .none },
  { cls := 9, slots := #[.int 96], vm := .none },
  { cls := 9, slots := #[.int 97], vm := .none },
  { cls := 9, slots := #[.int 98], vm := .none },
  { cls := 9, slots := #[.int 99], vm := .none },
  { cls := 9, slots := #[.int 100], vm := .none },
  { cls := 9, slots := #[.int 101], vm := .none },
  { cls := 9, slots := #[.int 102], vm := .none },
  { cls := 9, slots := #[.int 103], vm := .none },
  { cls := 9, slots := #[.int 104], vm := .none },
  { cls := 9, slots := #[.int 105], vm := .none },
  { cls := 9, slots := #[.int 106], vm := .none },
  { cls := 9, slots := #[.int 107], vm := .none },
  { cls := 9, slots := #[.int 108], vm := .none },
  { cls := 9, slots := #[.int 109], vm := .none },
  { cls := 9, slots := #[.int 110], vm := .none },
  { cls := 9, slots := #[.int 111], vm := .none },
  { cls := 9, slots := #[.int 112], vm := .none },
  { cls := 9, slots := #[.int 113], vm := .none },
  { cls := 9, slots := #[.int 114], vm := .none },
  { cls := 9, slots := #[.int 115], vm := .none },
  { cls := 9, slots := #[.int 116], vm := .none },
  { cls := 9, slots := #[.int 117], vm := .none },
  { cls := 9, slots := #[.int 118], vm := .none },
  { cls := 9, slots := #[.int 119], vm := .none },
  { cls := 9, slots := #[.int 120], vm := .none },
  { cls := 9, slots := #[.int 121], vm := .none },
  { cls := 9, slots := #[.int 122], vm := .none },
  { cls := 9, slots := #[.int 123], vm := .none },
  { cls := 9, slots := #[.int 124], vm := .none },
  { cls := 9, slots := #[.int 125], vm := .none },
  { cls := 9, slots := #[.int 126], vm := .none },
  { cls := 9, slots := #[.int 127], vm := .none }]
def classes : Array Class := #[k0, k1, k2, k3, k4, k5, k6, k7, k8, k9, k10, k11, k12, k13, k14, k15, k16]
def interned : List (Array UInt16 × Addr) := []
def slotsUsed : Nat := 517
def theMethod : MethodId := ⟨1, 2⟩
def args0 : Array Value := #[.int 5, .int 6, .int 7, .int 8, .int 9]
def aboutOver (below : List Frame) : State where
  vm := { classes := classes, interned := interned.toArray }
  heap := heap
  slotsUsed := slotsUsed
  threads := #[{ frames := .invoking theMethod args0 :: below }]
def below0 : List Frame := [.native { method := ⟨0, 0⟩, args := #[] }]
def about1 : State := aboutOver below0
def p0 : Program := .bare "" "" ""
def e0 : Env := launch0.env 0 0 0
theorem w_frames : about1.frames = Frame.invoking theMethod args0 :: below0 := rfl
set_option maxRecDepth 65536 in
theorem w_args : argsFit about1.vm theMethod args0 = true := by decide +kernel
set_option maxRecDepth 65536 in
theorem w_heap : heapFits about1 = true := by decide +kernel
set_option maxRecDepth 65536 in
theorem w_runnable : about1.curStatus? = some .runnable := by decide +kernel
set_option maxRecDepth 65536 in
theorem w_alone : about1.alone = true := by decide +kernel
set_option maxRecDepth 65536 in
theorem w_named : about1.methodNamed? x = some theMethod := by decide +kernel
set_option maxRecDepth 65536 in
theorem w_hears : about1.hears theMethod below0 = true := by decide +kernel
set_option maxRecDepth 65536 in
theorem w_ripe : about1.ripe theMethod args0 below0 = true := by decide +kernel
theorem w_running : about1.status = .running := rfl
set_option maxRecDepth 65536 in
theorem w_room : about1.hasRoom e0.platform room_1 = true :=
  launch0.hasRoom_least _ room_1 (by decide +kernel) (by decide +kernel) (by decide +kernel) (by decide +kernel) (by decide +kernel) (by decide +kernel)
theorem allAtoms_all (ts : List Jvm.Cond) (a : Array Jvm.Value) (st : Jvm.State) : (allAtoms ts).before a st = ts.all (fun c => c.before a st) := by
  induction ts with
  | nil => rfl
  | cons c t ih =>
    show (Jvm.Cond.and c (allAtoms t)).before a st = _
    rw [Jvm.Cond.before_and, ih, List.all_cons]
def words1 : List Jvm.Cond := Jvm.Cond.code x code maxLocals ret :: tables_1
/-- a 'code' word, met by the world's own term for the bytes: nothing is compared byte by byte -/
theorem code_word {y : MethodName} {bytes : ByteArray} {mx : Nat} {rt : Option FieldType} {a : Array Value} {s : State} {m : MethodId} {meth : Method} {c : Code} (h1 : s.methodNamed? y = some m) (h2 : s.vm.method? m = some meth) (h3 : meth.code = some c) (h4 : c.code = bytes)
    (h5 : (c.maxLocals == mx && c.exceptionTable.isEmpty && decide (c.maxStack ≤ mostOperands) && decide (meth.sig.returnType = rt) && !meth.locks && decide (parseMethodDescriptor y.desc = some meth.sig)) = true) : (Jvm.Cond.code y bytes mx rt).before a s = true := by
  simp only [Bool.and_eq_true, beq_iff_eq, Bool.not_eq_true', decide_eq_true_eq] at h5
  obtain ⟨⟨⟨⟨⟨g1, g2⟩, g3⟩, g4⟩, g5⟩, g6⟩ := h5
  simp [Cond.before, Cond.holds, Cond.value, h1, h2, h3, h4, g1, g2, g3, g4, g5, g6]
def isCode : Jvm.Cond → Bool
  | .code _ _ _ _ => true
  | _ => false
theorem all_split {L : List Jvm.Cond} {P : Jvm.Cond → Bool} (h1 : L.all (fun c => isCode c || P c) = true) (h2 : ∀ c ∈ L.filter isCode, P c = true) : L.all P = true := by
  refine List.all_eq_true.mpr fun c hc => ?_
  have h := List.all_eq_true.mp h1 c hc
  rcases Bool.eq_false_or_eq_true (isCode c) with hi | hi
  · exact h2 c (List.mem_filter.mpr ⟨hc, hi⟩)
  · simpa [hi] using h
set_option maxRecDepth 65536 in
theorem w_c0 : (Jvm.Cond.code x code maxLocals ret).before args0 about1 = true := code_word (m := ⟨1, 2⟩) (meth := k1m2) (c := k1c2) (by decide +kernel) rfl rfl rfl (by decide +kernel)
set_option maxRecDepth 65536 in
theorem w_c1 : (Jvm.Cond.code ({ cls := "dev/ambrotype/SizeEqualsPinLaw", name := "side", desc := "(I)I" } : Jvm.MethodName) method_2_code (2 : Nat) (Option.some Jvm.ClassFile.FieldType.int)).before args0 about1 = true := code_word (m := ⟨1, 1⟩) (meth := k1m1) (c := k1c1) (by decide +kernel) rfl rfl rfl (by decide +kernel)
set_option maxRecDepth 65536 in
theorem w_c2 : (Jvm.Cond.code ({ cls := "dev/ambrotype/Size", name := "<init>", desc := "(II)V" } : Jvm.MethodName) prog_23_method_1_code (3 : Nat) (Option.none : Option Jvm.ClassFile.FieldType)).before args0 about1 = true := code_word (m := ⟨3, 0⟩) (meth := k3m0) (c := k3c0) (by decide +kernel) rfl rfl rfl (by decide +kernel)
set_option maxRecDepth 65536 in
theorem w_c3 : (Jvm.Cond.code ({ cls := "java/lang/Record", name := "<init>", desc := "()V" } : Jvm.MethodName) jdk_30_method_1_code (1 : Nat) (Option.none : Option Jvm.ClassFile.FieldType)).before args0 about1 = true := code_word (m := ⟨2, 0⟩) (meth := k2m0) (c := k2c0) (by decide +kernel) rfl rfl rfl (by decide +kernel)
set_option maxRecDepth 65536 in
theorem w_c4 : (Jvm.Cond.code ({ cls := "java/lang/Object", name := "<init>", desc := "()V" } : Jvm.MethodName) object_method_1_code (1 : Nat) (Option.none : Option Jvm.ClassFile.FieldType)).before args0 about1 = true := code_word (m := ⟨0, 0⟩) (meth := k0m0) (c := k0c0) (by decide +kernel) rfl rfl rfl (by decide +kernel)
set_option maxRecDepth 65536 in
theorem w_c5 : (Jvm.Cond.code ({ cls := "java/lang/Integer", name := "valueOf", desc := "(I)Ljava/lang/Integer;" } : Jvm.MethodName) jdk_33_method_22_code (1 : Nat) (Option.some (Jvm.ClassFile.FieldType.object "java/lang/Integer"))).before args0 about1 = true := code_word (m := ⟨9, 0⟩) (meth := k9m0) (c := k9c0) (by decide +kernel) rfl rfl rfl (by decide +kernel)
set_option maxRecDepth 65536 in
theorem w_c6 : (Jvm.Cond.code ({ cls := "dev/ambrotype/Size", name := "equals", desc := "(Ljava/lang/Object;)Z" } : Jvm.MethodName) prog_23_method_8_code (3 : Nat) (Option.some Jvm.ClassFile.FieldType.boolean)).before args0 about1 = true := code_word (m := ⟨3, 1⟩) (meth := k3m1) (c := k3c1) (by decide +kernel) rfl rfl rfl (by decide +kernel)
set_option maxRecDepth 65536 in
theorem w_c7 : (Jvm.Cond.code ({ cls := "java/lang/Integer", name := "<init>", desc := "(I)V" } : Jvm.MethodName) jdk_33_method_23_code (2 : Nat) (Option.none : Option Jvm.ClassFile.FieldType)).before args0 about1 = true := code_word (m := ⟨9, 1⟩) (meth := k9m1) (c := k9c1) (by decide +kernel) rfl rfl rfl (by decide +kernel)
set_option maxRecDepth 65536 in
theorem w_c8 : (Jvm.Cond.code ({ cls := "java/lang/Number", name := "<init>", desc := "()V" } : Jvm.MethodName) jdk_18_method_1_code (1 : Nat) (Option.none : Option Jvm.ClassFile.FieldType)).before args0 about1 = true := code_word (m := ⟨5, 0⟩) (meth := k5m0) (c := k5c0) (by decide +kernel) rfl rfl rfl (by decide +kernel)
def codes1 : List Jvm.Cond := [Jvm.Cond.code x code maxLocals ret, Jvm.Cond.code ({ cls := "dev/ambrotype/SizeEqualsPinLaw", name := "side", desc := "(I)I" } : Jvm.MethodName) method_2_code (2 : Nat) (Option.some Jvm.ClassFile.FieldType.int), Jvm.Cond.code ({ cls := "dev/ambrotype/Size", name := "<init>", desc := "(II)V" } : Jvm.MethodName) prog_23_method_1_code (3 : Nat) (Option.none : Option Jvm.ClassFile.FieldType), Jvm.Cond.code ({ cls := "java/lang/Record", name := "<init>", desc := "()V" } : Jvm.MethodName) jdk_30_method_1_code (1 : Nat) (Option.none : Option Jvm.ClassFile.FieldType), Jvm.Cond.code ({ cls := "java/lang/Object", name := "<init>", desc := "()V" } : Jvm.MethodName) object_method_1_code (1 : Nat) (Option.none : Option Jvm.ClassFile.FieldType), Jvm.Cond.code ({ cls := "java/lang/Integer", name := "valueOf", desc := "(I)Ljava/lang/Integer;" } : Jvm.MethodName) jdk_33_method_22_code (1 : Nat) (Option.some (Jvm.ClassFile.FieldType.object "java/lang/Integer")), Jvm.Cond.code ({ cls := "dev/ambrotype/Size", name := "equals", desc := "(Ljava/lang/Object;)Z" } : Jvm.MethodName) prog_23_method_8_code (3 : Nat) (Option.some Jvm.ClassFile.FieldType.boolean), Jvm.Cond.code ({ cls := "java/lang/Integer", name := "<init>", desc := "(I)V" } : Jvm.MethodName) jdk_33_method_23_code (2 : Nat) (Option.none : Option Jvm.ClassFile.FieldType), Jvm.Cond.code ({ cls := "java/lang/Number", name := "<init>", desc := "()V" } : Jvm.MethodName) jdk_18_method_1_code (1 : Nat) (Option.none : Option Jvm.ClassFile.FieldType)]
set_option maxRecDepth 65536 in
theorem codes_eq : words1.filter isCode = codes1 := rfl
theorem w_codes : ∀ c ∈ words1.filter isCode, c.before args0 about1 = true := by
  rw [codes_eq]
  intro c hc
  simp only [codes1, List.mem_cons, List.not_mem_nil, or_false] at hc
  rcases hc with rfl | rfl | rfl | rfl | rfl | rfl | rfl | rfl | rfl
  · exact w_c0
  · exact w_c1
  · exact w_c2
  · exact w_c3
  · exact w_c4
  · exact w_c5
  · exact w_c6
  · exact w_c7
  · exact w_c8
set_option maxRecDepth 65536 in
theorem w_t1 : (words1.take 24).all (fun c => isCode c || c.before args0 about1) = true := by decide +kernel
set_option maxRecDepth 65536 in
theorem w_t2 : ((words1.drop 24).take 24).all (fun c => isCode c || c.before args0 about1) = true := by decide +kernel
set_option maxRecDepth 65536 in
theorem w_t3 : ((words1.drop 24).drop 24).all (fun c => isCode c || c.before args0 about1) = true := by decide +kernel
theorem w_tables : (allAtoms (Jvm.Cond.code x code maxLocals ret :: tables_1)).before args0 about1 = true := by
  rw [allAtoms_all]
  show words1.all (fun c => c.before args0 about1) = true
  refine all_split ?_ w_codes
  rw [← List.take_append_drop 24 words1, List.all_append, w_t1, ← List.take_append_drop 24 (words1.drop 24), List.all_append, w_t2, w_t3]
  rfl
set_option maxRecDepth 65536 in
theorem w_rest : rest_1_c.before args0 about1 = true := by decide +kernel
set_option maxRecDepth 65536 in
theorem w_case : (Jvm.Cond.and given_1 narrow_1).before args0 about1 = true := by decide +kernel
theorem w_applies : (headSpec (Jvm.Cond.code x code maxLocals ret :: tables_1) room_1).applies x e0.platform about1 = true :=
  (Spec.applies_iff w_frames).mpr ⟨w_running, w_runnable, w_alone, w_named, w_hears, w_ripe, w_room, w_tables⟩
theorem atStart : AtStart classFile x code maxLocals ret World_1 tables_1 room_1 Calls_1 rest_1 Pre_1 launch0 p0 e0 about1 theMethod args0 below0 :=
  ⟨lists_1, trivial, launch0.admits_env _ _ _, launch0.least_env, fairChoices_fair.cas, fairChoices_fair.clock, w_frames, w_args, w_heap, w_applies, trivial, w_rest, w_case⟩
end start1
theorem witness_1 : WitnessClaimed_1 := ⟨start1.p0, start1.e0, start1.about1, start1.theMethod, start1.args0, start1.below0, start1.atStart⟩
end Jvm.Pilot.@@N@@
