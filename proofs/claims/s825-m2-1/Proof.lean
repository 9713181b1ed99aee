import JvmDerived
import JvmDerived.Pilot.@@N@@Statement
import JvmDerived.Pilot.@@N@@Code
set_option linter.unusedVariables false
set_option linter.unusedSimpArgs false
namespace Jvm.Pilot.@@N@@
open Jvm Jvm.ClassFile Sem Op Lib Jvm.Free Jvm.Stand Jvm.LawKit Jvm.RoadKit Bundle Jvm.Pilot.@@N@@.Jvm.D
abbrev St (p : Program) (e : Env) (below : List Frame) (T : State) (g : JFrame) (t : State) : Prop := Steps p.tables e below (T.setTop g) t
theorem ww {Z : State} {a0 : Array Value} (hw : ∀ d ∈ tables_1, d.before a0 Z = true) {d : Jvm.Cond} (i : Nat) (h : tables_1[i]? = some d) : d.before a0 Z = true := hw _ (List.mem_of_getElem? h)
theorem ltI {a b : Int32} (h : a < b) : a.toInt < b.toInt := Int32.lt_iff_toInt_lt.mp h
theorem nltI {a b : Int32} (h : ¬ a < b) : ¬ a.toInt < b.toInt := mt Int32.lt_iff_toInt_lt.mpr h
theorem eqI {a b : Int32} (h : a = b) : a.toInt = b.toInt := congrArg Int32.toInt h
theorem neI {a b : Int32} (h : ¬ a = b) : ¬ a.toInt = b.toInt := mt Int32.toInt_inj.mp h
theorem ltJ {a b : Int64} (h : a < b) : a.toInt < b.toInt := Int64.lt_iff_toInt_lt.mp h
theorem nltJ {a b : Int64} (h : ¬ a < b) : ¬ a.toInt < b.toInt := mt Int64.lt_iff_toInt_lt.mpr h
theorem eqJ {a b : Int64} (h : a = b) : a.toInt = b.toInt := congrArg Int64.toInt h
theorem neJ {a b : Int64} (h : ¬ a = b) : ¬ a.toInt = b.toInt := mt Int64.toInt_inj.mp h
theorem own_eqI {args : Array Value} {s : State} {t : Term} {k : Int32} (h : (Jvm.Cond.eq t (.int k)).value args s none s [] = some true) : t.eval args s none [] s = some (.int k) := by
  obtain ⟨x, y, ex, ey, k1, k2⟩ := cmp_v (Or.inl h)
  obtain rfl : y = .int k := Option.some.inj (ey.symm.trans (Term.int_eval k))
  obtain ⟨z, rfl⟩ := k2
  rw [ex, gotT (Cond.eq_ints ex ey) h]
theorem own_eqJ {args : Array Value} {s : State} {t : Term} {k : Int64} (h : (Jvm.Cond.eq t (.long k)).value args s none s [] = some true) : t.eval args s none [] s = some (.long k) := by
  obtain ⟨x, y, ex, ey, k1, k2⟩ := cmp_v (Or.inl h)
  obtain rfl : y = .long k := Option.some.inj (ey.symm.trans (long_at k))
  obtain ⟨z, rfl⟩ := k2
  rw [ex, gotT (eq_L ex ey) h]
theorem own_eqR {args : Array Value} {s : State} {t u : Term} {b : Addr} (h : (Jvm.Cond.eq t u).value args s none s [] = some true) (hu : u.eval args s none [] s = some (.ref b)) : t.eval args s none [] s = some (.ref b) := by
  obtain ⟨x, y, ex, ey, k1, k2⟩ := cmp_v (Or.inl h)
  obtain rfl : y = .ref b := Option.some.inj (ey.symm.trans hu)
  have hx : x.isRef = true := k2.2
  rw [ex, gotT (eq_R ex ey hx rfl) h]
theorem own_len {args : Array Value} {s : State} {t : Term} {a : Addr} {cl : Cell} {ty : FieldType} {k : Int32} (ev : t.eval args s none [] s = some (.ref a)) (A : Arr s s.heap a cl ty) (h : (Term.length t).eval args s none [] s = some (.int k)) : cl.slots.size < 2 ^ 31 ∧ cl.slots.size.toInt32 = k := by
  have ha := A.fin (Vm.Alike.refl _)
  by_cases hl : cl.slots.size < 2 ^ 31
  · exact ⟨hl, Value.int.inj (Option.some.inj ((len_f ev ha hl).symm.trans h))⟩
  · exfalso; simp [Term.eval, ev, ha, hl] at h
theorem own_sel {Z : State} {a0 : Array Value} {y : MethodName} {n : Nat} (wi : (Jvm.Cond.instantiable y.cls n).before a0 Z = true) (wp : (Jvm.Cond.privateMethod y).before a0 Z = true) (wm : (Jvm.Cond.instanceMethod y).before a0 Z = true) (hy : y.cls ≠ "java/lang/invoke/MethodHandle" ∧ y.cls ≠ "java/lang/invoke/VarHandle") : (Jvm.Cond.selects y.cls y y).before a0 Z = true := by
  obtain ⟨c, k, h1, h2, h3, h4, -⟩ := Cond.instantiable_spec wi
  exact selects_self_of_private h1 h2 (by simp only [Bool.or_eq_false_iff] at h4; exact h4.1) (Cond.privateMethod_at wp) wm hy
def own_nz (x : Int64) : Int32 := if x = 0 then 0 else 1
theorem own_c_nz (x : Int64) : (x.toInt = 0 → (own_nz x).toInt = 0) ∧ (x.toInt ≠ 0 → (own_nz x).toInt = 1) := by
  unfold own_nz
  by_cases h : x = 0
  · subst h; exact ⟨fun _ => by decide, fun q => absurd (by decide) q⟩
  · rw [if_neg h]; exact ⟨fun q => absurd (Int64.toInt_inj.mp (q.trans (by decide : (0 : Int) = (0 : Int64).toInt))) h, fun _ => by decide⟩
theorem own_old_le {Z : State} {n0 : Nat} {h : Heap} (O : Old Z n0 h) : n0 ≤ h.size := O.1 ▸ O.2.1
abbrev M0 : MethodName := ⟨"dev/ambrotype/imageio/TiffCompression", "predicted", "()Z"⟩
abbrev M1 : MethodName := ⟨"java/lang/Enum", "ordinal", "()I"⟩
abbrev M2 : MethodName := ⟨"dev/ambrotype/imageio/TiffCompression", "ordinal", "()I"⟩
abbrev M3 : MethodName := ⟨"dev/ambrotype/imageio/TiffCompression", "byteStream", "()Z"⟩

def Env1 (Z : State) (a_NONE : Addr) (a_LZW : Addr) (a_ZLIB : Addr) (a_DEFLATE : Addr) (a_CCITT_T6 : Addr) (a_CCITT_RLE : Addr) (a_CCITT_T4 : Addr) (a_PACKBITS : Addr) (a_OLD_JPEG : Addr) (a_JPEG : Addr) : Prop := Sta Z Z.heap "dev/ambrotype/imageio/TiffCompression" "NONE" "Ldev/ambrotype/imageio/TiffCompression;" (.ref a_NONE) ∧
  Exa Z Z.heap a_NONE "dev/ambrotype/imageio/TiffCompression" ∧
  Sta Z Z.heap "dev/ambrotype/imageio/TiffCompression" "LZW" "Ldev/ambrotype/imageio/TiffCompression;" (.ref a_LZW) ∧
  Exa Z Z.heap a_LZW "dev/ambrotype/imageio/TiffCompression" ∧
  Fld Z Z.heap a_NONE "java/lang/Enum" "ordinal" "I" (.int (0 : Int32)) ∧
  Fld Z Z.heap a_LZW "java/lang/Enum" "ordinal" "I" (.int (4 : Int32)) ∧
  Sta Z Z.heap "dev/ambrotype/imageio/TiffCompression" "ZLIB" "Ldev/ambrotype/imageio/TiffCompression;" (.ref a_ZLIB) ∧
  Exa Z Z.heap a_ZLIB "dev/ambrotype/imageio/TiffCompression" ∧
  Fld Z Z.heap a_ZLIB "java/lang/Enum" "ordinal" "I" (.int (7 : Int32)) ∧
  Sta Z Z.heap "dev/ambrotype/imageio/TiffCompression" "DEFLATE" "Ldev/ambrotype/imageio/TiffCompression;" (.ref a_DEFLATE) ∧
  Exa Z Z.heap a_DEFLATE "dev/ambrotype/imageio/TiffCompression" ∧
  Fld Z Z.heap a_DEFLATE "java/lang/Enum" "ordinal" "I" (.int (9 : Int32)) ∧
  Sta Z Z.heap "dev/ambrotype/imageio/TiffCompression" "CCITT_T6" "Ldev/ambrotype/imageio/TiffCompression;" (.ref a_CCITT_T6) ∧
  Exa Z Z.heap a_CCITT_T6 "dev/ambrotype/imageio/TiffCompression" ∧
  Fld Z Z.heap a_CCITT_T6 "java/lang/Enum" "ordinal" "I" (.int (3 : Int32)) ∧
  Sta Z Z.heap "dev/ambrotype/imageio/TiffCompression" "CCITT_RLE" "Ldev/ambrotype/imageio/TiffCompression;" (.ref a_CCITT_RLE) ∧
  Exa Z Z.heap a_CCITT_RLE "dev/ambrotype/imageio/TiffCompression" ∧
  Fld Z Z.heap a_CCITT_RLE "java/lang/Enum" "ordinal" "I" (.int (1 : Int32)) ∧
  Sta Z Z.heap "dev/ambrotype/imageio/TiffCompression" "CCITT_T4" "Ldev/ambrotype/imageio/TiffCompression;" (.ref a_CCITT_T4) ∧
  Exa Z Z.heap a_CCITT_T4 "dev/ambrotype/imageio/TiffCompression" ∧
  Fld Z Z.heap a_CCITT_T4 "java/lang/Enum" "ordinal" "I" (.int (2 : Int32)) ∧
  Sta Z Z.heap "dev/ambrotype/imageio/TiffCompression" "PACKBITS" "Ldev/ambrotype/imageio/TiffCompression;" (.ref a_PACKBITS) ∧
  Exa Z Z.heap a_PACKBITS "dev/ambrotype/imageio/TiffCompression" ∧
  Fld Z Z.heap a_PACKBITS "java/lang/Enum" "ordinal" "I" (.int (8 : Int32)) ∧
  Sta Z Z.heap "dev/ambrotype/imageio/TiffCompression" "OLD_JPEG" "Ldev/ambrotype/imageio/TiffCompression;" (.ref a_OLD_JPEG) ∧
  Exa Z Z.heap a_OLD_JPEG "dev/ambrotype/imageio/TiffCompression" ∧
  Fld Z Z.heap a_OLD_JPEG "java/lang/Enum" "ordinal" "I" (.int (5 : Int32)) ∧
  Sta Z Z.heap "dev/ambrotype/imageio/TiffCompression" "JPEG" "Ldev/ambrotype/imageio/TiffCompression;" (.ref a_JPEG) ∧
  Exa Z Z.heap a_JPEG "dev/ambrotype/imageio/TiffCompression" ∧
  Fld Z Z.heap a_JPEG "java/lang/Enum" "ordinal" "I" (.int (6 : Int32))
theorem ef0 (m : MethodId) (x0 : Int32) : entryFrame m #[(.int x0)] maxLocals = mkF m 0 #[.val (.int x0), .unset, .unset, .unset, .unset] [] := by first | (simp [entryFrame, mkF, argsToLocals, Value.category, maxLocals]; done) | rfl
theorem pn0 : plainName "dev/ambrotype/imageio/TiffCompressionPredictedPinLaw" = true := by first | (simp [plainName, overriddenIn]; done) | decide +kernel
theorem ef1 (m : MethodId) (x0 : Addr) : entryFrame m #[(.ref x0)] 1 = mkF m 0 #[.val (.ref x0)] [] := by first | (simp [entryFrame, mkF, argsToLocals, Value.category]; done) | rfl
theorem pn1 : plainName "dev/ambrotype/imageio/TiffCompression" = true := by first | (simp [plainName, overriddenIn]; done) | decide +kernel
theorem d1_0 : decode prog_68_method_9_code 0 = .ok (.aload_n 0, 1) := by decide +kernel
theorem d1_1 : decode prog_68_method_9_code 1 = .ok (.getstatic 18, 3) := by decide +kernel
theorem d1_4 : decode prog_68_method_9_code 4 = .ok (.if_acmp .eq 17, 3) := by decide +kernel
theorem d1_7 : decode prog_68_method_9_code 7 = .ok (.aload_n 0, 1) := by decide +kernel
theorem d1_8 : decode prog_68_method_9_code 8 = .ok (.getstatic 27, 3) := by decide +kernel
theorem d1_11 : decode prog_68_method_9_code 11 = .ok (.if_acmp .eq 10, 3) := by decide +kernel
theorem d1_14 : decode prog_68_method_9_code 14 = .ok (.aload_n 0, 1) := by decide +kernel
theorem d1_15 : decode prog_68_method_9_code 15 = .ok (.getstatic 33, 3) := by decide +kernel
theorem d1_18 : decode prog_68_method_9_code 18 = .ok (.if_acmp .ne 7, 3) := by decide +kernel
theorem d1_25 : decode prog_68_method_9_code 25 = .ok (.iconst 0, 1) := by decide +kernel
theorem d1_26 : decode prog_68_method_9_code 26 = .ok (.ireturn, 1) := by decide +kernel
def Q1_0 (Z : State) (a_NONE : Addr) (a_LZW : Addr) (a_ZLIB : Addr) (a_DEFLATE : Addr) (a_CCITT_T6 : Addr) (a_CCITT_RLE : Addr) (a_CCITT_T4 : Addr) (a_PACKBITS : Addr) (a_OLD_JPEG : Addr) (a_JPEG : Addr) (h0 : Heap) (n0 : Nat) (v : Option Value) (h : Heap) (L : List Loc) : Prop := Fr n0 L ∧ h = h0 ∧ ((v = some (.int (0 : Int32))))
set_option maxRecDepth 65536 in
set_option maxHeartbeats 40000000 in
theorem rm1_0 (l : Launch) (Z : State) (a0 : Array Value) (hw : ∀ d ∈ tables_1, d.before a0 Z = true) (ws : List Jvm.Cond) (a_NONE : Addr) (a_LZW : Addr) (a_ZLIB : Addr) (a_DEFLATE : Addr) (a_CCITT_T6 : Addr) (a_CCITT_RLE : Addr) (a_CCITT_T4 : Addr) (a_PACKBITS : Addr) (a_OLD_JPEG : Addr) (a_JPEG : Addr) (h0 : Heap) (n0 : Nat) (O0 : Old Z n0 h0) (HE : Env1 Z a_NONE a_LZW a_ZLIB a_DEFLATE a_CCITT_T6 a_CCITT_RLE a_CCITT_T4 a_PACKBITS a_OLD_JPEG a_JPEG)  :
    MetFree l M0 (head1 (Jvm.Cond.code M0 prog_68_method_9_code 1 (some .boolean) :: ws) ({ frames := 0, cells := 0, slots := 0, locals := 0 } : Room)) (fun a U => a = #[(.ref a_NONE)] ∧ Z.Warmed39 U.vm ∧ U.heap = h0) (fun _ _ _ _ _ => True) (fun _ U o U' => ∃ v L, o = .returned v ∧ Q1_0 Z a_NONE a_LZW a_ZLIB a_DEFLATE a_CCITT_T6 a_CCITT_RLE a_CCITT_T4 a_PACKBITS a_OLD_JPEG a_JPEG h0 n0 v U'.heap L ∧ FrameEnd U o U' L ({ frames := 0, cells := 0, slots := 0, locals := 0 } : Room).cells ({ frames := 0, cells := 0, slots := 0, locals := 0 } : Room).slots) := by
 refine MetFree.of_bodySF (plainFor_of_name pn1) hisR ?_
 intro p e s m args below meth c s₁ Bd hml0 hP hK
 obtain ⟨rfl, hZ, hh⟩ := hP
 have hx := Bd.exec
 have hby := Bd.bytes
 have hml : c.maxLocals = 1 := hml0
 have hown : s.vm.findClass "dev/ambrotype/imageio/TiffCompression" = some m.cls := findClass_of_methodNamed Bd.named
 have hnm := (name_of_methodNamed Bd.named Bd.method).1
 have X0 : Stand p l e ({ frames := 0, cells := 0, slots := 0, locals := 0 } : Room) s m #[(.ref a_NONE)] below meth c s₁ [] 0 0 := Stand.of_body Bd
 have e0 : s₁.heap = h0 := by rw [← hh, Bd.state]; rfl
 have N0 := Fr.nil n0
 let S0 : State → Prop := fun t => Steps p.tables e below (s₁.setTop (entryFrame m #[(.ref a_NONE)] 1)) t
 have p0 : ∀ t, St p e below s₁ (mkF m 0 #[.val (.ref a_NONE)] []) t → S0 t := fun t k => castTop (ef1 m a_NONE) k
 have HE' := HE
 obtain ⟨Sa_NONE, Ea_NONE, Sa_LZW, Ea_LZW, Fa_NONE_ordinal, Fa_LZW_ordinal, Sa_ZLIB, Ea_ZLIB, Fa_ZLIB_ordinal, Sa_DEFLATE, Ea_DEFLATE, Fa_DEFLATE_ordinal, Sa_CCITT_T6, Ea_CCITT_T6, Fa_CCITT_T6_ordinal, Sa_CCITT_RLE, Ea_CCITT_RLE, Fa_CCITT_RLE_ordinal, Sa_CCITT_T4, Ea_CCITT_T4, Fa_CCITT_T4_ordinal, Sa_PACKBITS, Ea_PACKBITS, Fa_PACKBITS_ordinal, Sa_OLD_JPEG, Ea_OLD_JPEG, Fa_OLD_JPEG_ordinal, Sa_JPEG, Ea_JPEG, Fa_JPEG_ordinal⟩ := HE
 have p1 : ∀ t, St p e below s₁ (mkF m 1 #[.val (.ref a_NONE)] [(.ref a_NONE)]) t → S0 t := fun t k => p0 t (by
   show St p e below s₁ (mkF m 0 #[.val (.ref a_NONE)] []) t
   refine XS.aloadN X0.here hx rfl (hb hby d1_0) rfl rfl ?_
   exact k)
 obtain ⟨T2, X2, e2, st2⟩ := getS2 X0 hx hZ hown (host := "") (Or.inl (ww hw 9 rfl)) Via.refl e0 (Sa_LZW.ext O0.2) (g := (mkF m 1 #[.val (.ref a_NONE)] [(.ref a_NONE)])) rfl (hb hby d1_1)
 have p3 : ∀ t, St p e below T2 (mkF m 4 #[.val (.ref a_NONE)] [(.ref a_LZW), (.ref a_NONE)]) t → S0 t := fun t k => p1 t (st2 t k)
 have p4 : ∀ t, St p e below T2 (mkF m 8 #[.val (.ref a_NONE)] [(.ref a_NONE)]) t → S0 t := fun t k => p3 t (by
   show St p e below T2 (mkF m 4 #[.val (.ref a_NONE)] [(.ref a_LZW), (.ref a_NONE)]) t
   refine Jvm.RoadKit.acmp (g := (mkF m 4 #[.val (.ref a_NONE)] [(.ref a_LZW), (.ref a_NONE)])) X2 hx rfl rfl rfl (pc0 := 4) (pc' := 7) (same := false) rfl (hb hby d1_4) rfl (decide_eq_false fun q => (Fld.ne Fa_NONE_ordinal Fa_LZW_ordinal (fun q => absurd (Value.int.inj q) (by decide))) (Value.ref.inj q)) (by decide) (by decide) ?_
   show St p e below T2 (mkF m 7 #[.val (.ref a_NONE)] []) t
   refine XS.aloadN X2.here hx rfl (hb hby d1_7) rfl rfl ?_
   exact k)
 obtain ⟨T5, X5, e5, st5⟩ := getS2 X2 hx hZ hown (host := "") (Or.inl (ww hw 11 rfl)) Via.refl e2 (Sa_ZLIB.ext O0.2) (g := (mkF m 8 #[.val (.ref a_NONE)] [(.ref a_NONE)])) rfl (hb hby d1_8)
 have p6 : ∀ t, St p e below T5 (mkF m 11 #[.val (.ref a_NONE)] [(.ref a_ZLIB), (.ref a_NONE)]) t → S0 t := fun t k => p4 t (st5 t k)
 have p7 : ∀ t, St p e below T5 (mkF m 15 #[.val (.ref a_NONE)] [(.ref a_NONE)]) t → S0 t := fun t k => p6 t (by
   show St p e below T5 (mkF m 11 #[.val (.ref a_NONE)] [(.ref a_ZLIB), (.ref a_NONE)]) t
   refine Jvm.RoadKit.acmp (g := (mkF m 11 #[.val (.ref a_NONE)] [(.ref a_ZLIB), (.ref a_NONE)])) X5 hx rfl rfl rfl (pc0 := 11) (pc' := 14) (same := false) rfl (hb hby d1_11) rfl (decide_eq_false fun q => (Fld.ne Fa_NONE_ordinal Fa_ZLIB_ordinal (fun q => absurd (Value.int.inj q) (by decide))) (Value.ref.inj q)) (by decide) (by decide) ?_
   show St p e below T5 (mkF m 14 #[.val (.ref a_NONE)] []) t
   refine XS.aloadN X5.here hx rfl (hb hby d1_14) rfl rfl ?_
   exact k)
 obtain ⟨T8, X8, e8, st8⟩ := getS2 X5 hx hZ hown (host := "") (Or.inl (ww hw 13 rfl)) Via.refl e5 (Sa_DEFLATE.ext O0.2) (g := (mkF m 15 #[.val (.ref a_NONE)] [(.ref a_NONE)])) rfl (hb hby d1_15)
 have p9 : ∀ t, St p e below T8 (mkF m 18 #[.val (.ref a_NONE)] [(.ref a_DEFLATE), (.ref a_NONE)]) t → S0 t := fun t k => p7 t (st8 t k)
 have p10 : ∀ t, St p e below T8 (mkF m 26 #[.val (.ref a_NONE)] [(.int (0 : Int32))]) t → S0 t := fun t k => p9 t (by
   show St p e below T8 (mkF m 18 #[.val (.ref a_NONE)] [(.ref a_DEFLATE), (.ref a_NONE)]) t
   refine Jvm.RoadKit.acmp (g := (mkF m 18 #[.val (.ref a_NONE)] [(.ref a_DEFLATE), (.ref a_NONE)])) X8 hx rfl rfl rfl (pc0 := 18) (pc' := 25) (same := false) rfl (hb hby d1_18) rfl (decide_eq_false fun q => (Fld.ne Fa_NONE_ordinal Fa_DEFLATE_ordinal (fun q => absurd (Value.int.inj q) (by decide))) (Value.ref.inj q)) (by decide) (by decide) ?_
   show St p e below T8 (mkF m 25 #[.val (.ref a_NONE)] []) t
   refine XT.iconstV X8.here hx rfl (0 : Int32) (hb hby d1_25) (by decide) ?_
   exact k)
 obtain ⟨fs, hr, hrun, hended, hW, hsame⟩ := X8.leave (v := some (.int (0 : Int32))) (fun h => by rw [Bd.returns] at h; cases h)
 refine ⟨_, _, p10 _ ?_, hrun, hended, _, _, rfl, ?_, ⟨_, rfl⟩, hW, hsame.mono (by decide) (by decide)⟩
 · exact retOut X8 hx Bd.returns rfl (Or.inl ⟨rfl, by simp, _, rfl⟩) (hb hby d1_26) hr
 · show Q1_0 Z a_NONE a_LZW a_ZLIB a_DEFLATE a_CCITT_T6 a_CCITT_RLE a_CCITT_T4 a_PACKBITS a_OLD_JPEG a_JPEG h0 n0 _ T8.heap _
   exact ⟨N0, e8, rfl⟩
theorem pd0 : parseMethodDescriptor "()Z" = some ⟨[], some .boolean⟩ := by decide +kernel
def Q1_1 (Z : State) (a_NONE : Addr) (a_LZW : Addr) (a_ZLIB : Addr) (a_DEFLATE : Addr) (a_CCITT_T6 : Addr) (a_CCITT_RLE : Addr) (a_CCITT_T4 : Addr) (a_PACKBITS : Addr) (a_OLD_JPEG : Addr) (a_JPEG : Addr) (h0 : Heap) (n0 : Nat) (v : Option Value) (h : Heap) (L : List Loc) : Prop := Fr n0 L ∧ h = h0 ∧ ((v = some (.int (0 : Int32))))
set_option maxRecDepth 65536 in
set_option maxHeartbeats 40000000 in
theorem rm1_1 (l : Launch) (Z : State) (a0 : Array Value) (hw : ∀ d ∈ tables_1, d.before a0 Z = true) (ws : List Jvm.Cond) (a_NONE : Addr) (a_LZW : Addr) (a_ZLIB : Addr) (a_DEFLATE : Addr) (a_CCITT_T6 : Addr) (a_CCITT_RLE : Addr) (a_CCITT_T4 : Addr) (a_PACKBITS : Addr) (a_OLD_JPEG : Addr) (a_JPEG : Addr) (h0 : Heap) (n0 : Nat) (O0 : Old Z n0 h0) (HE : Env1 Z a_NONE a_LZW a_ZLIB a_DEFLATE a_CCITT_T6 a_CCITT_RLE a_CCITT_T4 a_PACKBITS a_OLD_JPEG a_JPEG)  :
    MetFree l M0 (head1 (Jvm.Cond.code M0 prog_68_method_9_code 1 (some .boolean) :: ws) ({ frames := 0, cells := 0, slots := 0, locals := 0 } : Room)) (fun a U => a = #[(.ref a_CCITT_RLE)] ∧ Z.Warmed39 U.vm ∧ U.heap = h0) (fun _ _ _ _ _ => True) (fun _ U o U' => ∃ v L, o = .returned v ∧ Q1_1 Z a_NONE a_LZW a_ZLIB a_DEFLATE a_CCITT_T6 a_CCITT_RLE a_CCITT_T4 a_PACKBITS a_OLD_JPEG a_JPEG h0 n0 v U'.heap L ∧ FrameEnd U o U' L ({ frames := 0, cells := 0, slots := 0, locals := 0 } : Room).cells ({ frames := 0, cells := 0, slots := 0, locals := 0 } : Room).slots) := by
 refine MetFree.of_bodySF (plainFor_of_name pn1) hisR ?_
 intro p e s m args below meth c s₁ Bd hml0 hP hK
 obtain ⟨rfl, hZ, hh⟩ := hP
 have hx := Bd.exec
 have hby := Bd.bytes
 have hml : c.maxLocals = 1 := hml0
 have hown : s.vm.findClass "dev/ambrotype/imageio/TiffCompression" = some m.cls := findClass_of_methodNamed Bd.named
 have hnm := (name_of_methodNamed Bd.named Bd.method).1
 have X0 : Stand p l e ({ frames := 0, cells := 0, slots := 0, locals := 0 } : Room) s m #[(.ref a_CCITT_RLE)] below meth c s₁ [] 0 0 := Stand.of_body Bd
 have e0 : s₁.heap = h0 := by rw [← hh, Bd.state]; rfl
 have N0 := Fr.nil n0
 let S0 : State → Prop := fun t => Steps p.tables e below (s₁.setTop (entryFrame m #[(.ref a_CCITT_RLE)] 1)) t
 have p0 : ∀ t, St p e below s₁ (mkF m 0 #[.val (.ref a_CCITT_RLE)] []) t → S0 t := fun t k => castTop (ef1 m a_CCITT_RLE) k
 have HE' := HE
 obtain ⟨Sa_NONE, Ea_NONE, Sa_LZW, Ea_LZW, Fa_NONE_ordinal, Fa_LZW_ordinal, Sa_ZLIB, Ea_ZLIB, Fa_ZLIB_ordinal, Sa_DEFLATE, Ea_DEFLATE, Fa_DEFLATE_ordinal, Sa_CCITT_T6, Ea_CCITT_T6, Fa_CCITT_T6_ordinal, Sa_CCITT_RLE, Ea_CCITT_RLE, Fa_CCITT_RLE_ordinal, Sa_CCITT_T4, Ea_CCITT_T4, Fa_CCITT_T4_ordinal, Sa_PACKBITS, Ea_PACKBITS, Fa_PACKBITS_ordinal, Sa_OLD_JPEG, Ea_OLD_JPEG, Fa_OLD_JPEG_ordinal, Sa_JPEG, Ea_JPEG, Fa_JPEG_ordinal⟩ := HE
 have p1 : ∀ t, St p e below s₁ (mkF m 1 #[.val (.ref a_CCITT_RLE)] [(.ref a_CCITT_RLE)]) t → S0 t := fun t k => p0 t (by
   show St p e below s₁ (mkF m 0 #[.val (.ref a_CCITT_RLE)] []) t
   refine XS.aloadN X0.here hx rfl (hb hby d1_0) rfl rfl ?_
   exact k)
 obtain ⟨T2, X2, e2, st2⟩ := getS2 X0 hx hZ hown (host := "") (Or.inl (ww hw 9 rfl)) Via.refl e0 (Sa_LZW.ext O0.2) (g := (mkF m 1 #[.val (.ref a_CCITT_RLE)] [(.ref a_CCITT_RLE)])) rfl (hb hby d1_1)
 have p3 : ∀ t, St p e below T2 (mkF m 4 #[.val (.ref a_CCITT_RLE)] [(.ref a_LZW), (.ref a_CCITT_RLE)]) t → S0 t := fun t k => p1 t (st2 t k)
 have p4 : ∀ t, St p e below T2 (mkF m 8 #[.val (.ref a_CCITT_RLE)] [(.ref a_CCITT_RLE)]) t → S0 t := fun t k => p3 t (by
   show St p e below T2 (mkF m 4 #[.val (.ref a_CCITT_RLE)] [(.ref a_LZW), (.ref a_CCITT_RLE)]) t
   refine Jvm.RoadKit.acmp (g := (mkF m 4 #[.val (.ref a_CCITT_RLE)] [(.ref a_LZW), (.ref a_CCITT_RLE)])) X2 hx rfl rfl rfl (pc0 := 4) (pc' := 7) (same := false) rfl (hb hby d1_4) rfl (decide_eq_false fun q => (Fld.ne Fa_CCITT_RLE_ordinal Fa_LZW_ordinal (fun q => absurd (Value.int.inj q) (by decide))) (Value.ref.inj q)) (by decide) (by decide) ?_
   show St p e below T2 (mkF m 7 #[.val (.ref a_CCITT_RLE)] []) t
   refine XS.aloadN X2.here hx rfl (hb hby d1_7) rfl rfl ?_
   exact k)
 obtain ⟨T5, X5, e5, st5⟩ := getS2 X2 hx hZ hown (host := "") (Or.inl (ww hw 11 rfl)) Via.refl e2 (Sa_ZLIB.ext O0.2) (g := (mkF m 8 #[.val (.ref a_CCITT_RLE)] [(.ref a_CCITT_RLE)])) rfl (hb hby d1_8)
 have p6 : ∀ t, St p e below T5 (mkF m 11 #[.val (.ref a_CCITT_RLE)] [(.ref a_ZLIB), (.ref a_CCITT_RLE)]) t → S0 t := fun t k => p4 t (st5 t k)
 have p7 : ∀ t, St p e below T5 (mkF m 15 #[.val (.ref a_CCITT_RLE)] [(.ref a_CCITT_RLE)]) t → S0 t := fun t k => p6 t (by
   show St p e below T5 (mkF m 11 #[.val (.ref a_CCITT_RLE)] [(.ref a_ZLIB), (.ref a_CCITT_RLE)]) t
   refine Jvm.RoadKit.acmp (g := (mkF m 11 #[.val (.ref a_CCITT_RLE)] [(.ref a_ZLIB), (.ref a_CCITT_RLE)])) X5 hx rfl rfl rfl (pc0 := 11) (pc' := 14) (same := false) rfl (hb hby d1_11) rfl (decide_eq_false fun q => (Fld.ne Fa_CCITT_RLE_ordinal Fa_ZLIB_ordinal (fun q => absurd (Value.int.inj q) (by decide))) (Value.ref.inj q)) (by decide) (by decide) ?_
   show St p e below T5 (mkF m 14 #[.val (.ref a_CCITT_RLE)] []) t
   refine XS.aloadN X5.here hx rfl (hb hby d1_14) rfl rfl ?_
   exact k)
 obtain ⟨T8, X8, e8, st8⟩ := getS2 X5 hx hZ hown (host := "") (Or.inl (ww hw 13 rfl)) Via.refl e5 (Sa_DEFLATE.ext O0.2) (g := (mkF m 15 #[.val (.ref a_CCITT_RLE)] [(.ref a_CCITT_RLE)])) rfl (hb hby d1_15)
 have p9 : ∀ t, St p e below T8 (mkF m 18 #[.val (.ref a_CCITT_RLE)] [(.ref a_DEFLATE), (.ref a_CCITT_RLE)]) t → S0 t := fun t k => p7 t (st8 t k)
 have p10 : ∀ t, St p e below T8 (mkF m 26 #[.val (.ref a_CCITT_RLE)] [(.int (0 : Int32))]) t → S0 t := fun t k => p9 t (by
   show St p e below T8 (mkF m 18 #[.val (.ref a_CCITT_RLE)] [(.ref a_DEFLATE), (.ref a_CCITT_RLE)]) t
   refine Jvm.RoadKit.acmp (g := (mkF m 18 #[.val (.ref a_CCITT_RLE)] [(.ref a_DEFLATE), (.ref a_CCITT_RLE)])) X8 hx rfl rfl rfl (pc0 := 18) (pc' := 25) (same := false) rfl (hb hby d1_18) rfl (decide_eq_false fun q => (Fld.ne Fa_CCITT_RLE_ordinal Fa_DEFLATE_ordinal (fun q => absurd (Value.int.inj q) (by decide))) (Value.ref.inj q)) (by decide) (by decide) ?_
   show St p e below T8 (mkF m 25 #[.val (.ref a_CCITT_RLE)] []) t
   refine XT.iconstV X8.here hx rfl (0 : Int32) (hb hby d1_25) (by decide) ?_
   exact k)
 obtain ⟨fs, hr, hrun, hended, hW, hsame⟩ := X8.leave (v := some (.int (0 : Int32))) (fun h => by rw [Bd.returns] at h; cases h)
 refine ⟨_, _, p10 _ ?_, hrun, hended, _, _, rfl, ?_, ⟨_, rfl⟩, hW, hsame.mono (by decide) (by decide)⟩
 · exact retOut X8 hx Bd.returns rfl (Or.inl ⟨rfl, by simp, _, rfl⟩) (hb hby d1_26) hr
 · show Q1_1 Z a_NONE a_LZW a_ZLIB a_DEFLATE a_CCITT_T6 a_CCITT_RLE a_CCITT_T4 a_PACKBITS a_OLD_JPEG a_JPEG h0 n0 _ T8.heap _
   exact ⟨N0, e8, rfl⟩
def Q1_2 (Z : State) (a_NONE : Addr) (a_LZW : Addr) (a_ZLIB : Addr) (a_DEFLATE : Addr) (a_CCITT_T6 : Addr) (a_CCITT_RLE : Addr) (a_CCITT_T4 : Addr) (a_PACKBITS : Addr) (a_OLD_JPEG : Addr) (a_JPEG : Addr) (h0 : Heap) (n0 : Nat) (v : Option Value) (h : Heap) (L : List Loc) : Prop := Fr n0 L ∧ h = h0 ∧ ((v = some (.int (0 : Int32))))
set_option maxRecDepth 65536 in
set_option maxHeartbeats 40000000 in
theorem rm1_2 (l : Launch) (Z : State) (a0 : Array Value) (hw : ∀ d ∈ tables_1, d.before a0 Z = true) (ws : List Jvm.Cond) (a_NONE : Addr) (a_LZW : Addr) (a_ZLIB : Addr) (a_DEFLATE : Addr) (a_CCITT_T6 : Addr) (a_CCITT_RLE : Addr) (a_CCITT_T4 : Addr) (a_PACKBITS : Addr) (a_OLD_JPEG : Addr) (a_JPEG : Addr) (h0 : Heap) (n0 : Nat) (O0 : Old Z n0 h0) (HE : Env1 Z a_NONE a_LZW a_ZLIB a_DEFLATE a_CCITT_T6 a_CCITT_RLE a_CCITT_T4 a_PACKBITS a_OLD_JPEG a_JPEG)  :
    MetFree l M0 (head1 (Jvm.Cond.code M0 prog_68_method_9_code 1 (some .boolean) :: ws) ({ frames := 0, cells := 0, slots := 0, locals := 0 } : Room)) (fun a U => a = #[(.ref a_CCITT_T4)] ∧ Z.Warmed39 U.vm ∧ U.heap = h0) (fun _ _ _ _ _ => True) (fun _ U o U' => ∃ v L, o = .returned v ∧ Q1_2 Z a_NONE a_LZW a_ZLIB a_DEFLATE a_CCITT_T6 a_CCITT_RLE a_CCITT_T4 a_PACKBITS a_OLD_JPEG a_JPEG h0 n0 v U'.heap L ∧ FrameEnd U o U' L ({ frames := 0, cells := 0, slots := 0, locals := 0 } : Room).cells ({ frames := 0, cells := 0, slots := 0, locals := 0 } : Room).slots) := by
 refine MetFree.of_bodySF (plainFor_of_name pn1) hisR ?_
 intro p e s m args below meth c s₁ Bd hml0 hP hK
 obtain ⟨rfl, hZ, hh⟩ := hP
 have hx := Bd.exec
 have hby := Bd.bytes
 have hml : c.maxLocals = 1 := hml0
 have hown : s.vm.findClass "dev/ambrotype/imageio/TiffCompression" = some m.cls := findClass_of_methodNamed Bd.named
 have hnm := (name_of_methodNamed Bd.named Bd.method).1
 have X0 : Stand p l e ({ frames := 0, cells := 0, slots := 0, locals := 0 } : Room) s m #[(.ref a_CCITT_T4)] below meth c s₁ [] 0 0 := Stand.of_body Bd
 have e0 : s₁.heap = h0 := by rw [← hh, Bd.state]; rfl
 have N0 := Fr.nil n0
 let S0 : State → Prop := fun t => Steps p.tables e below (s₁.setTop (entryFrame m #[(.ref a_CCITT_T4)] 1)) t
 have p0 : ∀ t, St p e below s₁ (mkF m 0 #[.val (.ref a_CCITT_T4)] []) t → S0 t := fun t k => castTop (ef1 m a_CCITT_T4) k
 have HE' := HE
 obtain ⟨Sa_NONE, Ea_NONE, Sa_LZW, Ea_LZW, Fa_NONE_ordinal, Fa_LZW_ordinal, Sa_ZLIB, Ea_ZLIB, Fa_ZLIB_ordinal, Sa_DEFLATE, Ea_DEFLATE, Fa_DEFLATE_ordinal, Sa_CCITT_T6, Ea_CCITT_T6, Fa_CCITT_T6_ordinal, Sa_CCITT_RLE, Ea_CCITT_RLE, Fa_CCITT_RLE_ordinal, Sa_CCITT_T4, Ea_CCITT_T4, Fa_CCITT_T4_ordinal, Sa_PACKBITS, Ea_PACKBITS, Fa_PACKBITS_ordinal, Sa_OLD_JPEG, Ea_OLD_JPEG, Fa_OLD_JPEG_ordinal, Sa_JPEG, Ea_JPEG, Fa_JPEG_ordinal⟩ := HE
 have p1 : ∀ t, St p e below s₁ (mkF m 1 #[.val (.ref a_CCITT_T4)] [(.ref a_CCITT_T4)]) t → S0 t := fun t k => p0 t (by
   show St p e below s₁ (mkF m 0 #[.val (.ref a_CCITT_T4)] []) t
   refine XS.aloadN X0.here hx rfl (hb hby d1_0) rfl rfl ?_
   exact k)
 obtain ⟨T2, X2, e2, st2⟩ := getS2 X0 hx hZ hown (host := "") (Or.inl (ww hw 9 rfl)) Via.refl e0 (Sa_LZW.ext O0.2) (g := (mkF m 1 #[.val (.ref a_CCITT_T4)] [(.ref a_CCITT_T4)])) rfl (hb hby d1_1)
 have p3 : ∀ t, St p e below T2 (mkF m 4 #[.val (.ref a_CCITT_T4)] [(.ref a_LZW), (.ref a_CCITT_T4)]) t → S0 t := fun t k => p1 t (st2 t k)
 have p4 : ∀ t, St p e below T2 (mkF m 8 #[.val (.ref a_CCITT_T4)] [(.ref a_CCITT_T4)]) t → S0 t := fun t k => p3 t (by
   show St p e below T2 (mkF m 4 #[.val (.ref a_CCITT_T4)] [(.ref a_LZW), (.ref a_CCITT_T4)]) t
   refine Jvm.RoadKit.acmp (g := (mkF m 4 #[.val (.ref a_CCITT_T4)] [(.ref a_LZW), (.ref a_CCITT_T4)])) X2 hx rfl rfl rfl (pc0 := 4) (pc' := 7) (same := false) rfl (hb hby d1_4) rfl (decide_eq_false fun q => (Fld.ne Fa_CCITT_T4_ordinal Fa_LZW_ordinal (fun q => absurd (Value.int.inj q) (by decide))) (Value.ref.inj q)) (by decide) (by decide) ?_
   show St p e below T2 (mkF m 7 #[.val (.ref a_CCITT_T4)] []) t
   refine XS.aloadN X2.here hx rfl (hb hby d1_7) rfl rfl ?_
   exact k)
 obtain ⟨T5, X5, e5, st5⟩ := getS2 X2 hx hZ hown (host := "") (Or.inl (ww hw 11 rfl)) Via.refl e2 (Sa_ZLIB.ext O0.2) (g := (mkF m 8 #[.val (.ref a_CCITT_T4)] [(.ref a_CCITT_T4)])) rfl (hb hby d1_8)
 have p6 : ∀ t, St p e below T5 (mkF m 11 #[.val (.ref a_CCITT_T4)] [(.ref a_ZLIB), (.ref a_CCITT_T4)]) t → S0 t := fun t k => p4 t (st5 t k)
 have p7 : ∀ t, St p e below T5 (mkF m 15 #[.val (.ref a_CCITT_T4)] [(.ref a_CCITT_T4)]) t → S0 t := fun t k => p6 t (by
   show St p e below T5 (mkF m 11 #[.val (.ref a_CCITT_T4)] [(.ref a_ZLIB), (.ref a_CCITT_T4)]) t
   refine Jvm.RoadKit.acmp (g := (mkF m 11 #[.val (.ref a_CCITT_T4)] [(.ref a_ZLIB), (.ref a_CCITT_T4)])) X5 hx rfl rfl rfl (pc0 := 11) (pc' := 14) (same := false) rfl (hb hby d1_11) rfl (decide_eq_false fun q => (Fld.ne Fa_CCITT_T4_ordinal Fa_ZLIB_ordinal (fun q => absurd (Value.int.inj q) (by decide))) (Value.ref.inj q)) (by decide) (by decide) ?_
   show St p e below T5 (mkF m 14 #[.val (.ref a_CCITT_T4)] []) t
   refine XS.aloadN X5.here hx rfl (hb hby d1_14) rfl rfl ?_
   exact k)
 obtain ⟨T8, X8, e8, st8⟩ := getS2 X5 hx hZ hown (host := "") (Or.inl (ww hw 13 rfl)) Via.refl e5 (Sa_DEFLATE.ext O0.2) (g := (mkF m 15 #[.val (.ref a_CCITT_T4)] [(.ref a_CCITT_T4)])) rfl (hb hby d1_15)
 have p9 : ∀ t, St p e below T8 (mkF m 18 #[.val (.ref a_CCITT_T4)] [(.ref a_DEFLATE), (.ref a_CCITT_T4)]) t → S0 t := fun t k => p7 t (st8 t k)
 have p10 : ∀ t, St p e below T8 (mkF m 26 #[.val (.ref a_CCITT_T4)] [(.int (0 : Int32))]) t → S0 t := fun t k => p9 t (by
   show St p e below T8 (mkF m 18 #[.val (.ref a_CCITT_T4)] [(.ref a_DEFLATE), (.ref a_CCITT_T4)]) t
   refine Jvm.RoadKit.acmp (g := (mkF m 18 #[.val (.ref a_CCITT_T4)] [(.ref a_DEFLATE), (.ref a_CCITT_T4)])) X8 hx rfl rfl rfl (pc0 := 18) (pc' := 25) (same := false) rfl (hb hby d1_18) rfl (decide_eq_false fun q => (Fld.ne Fa_CCITT_T4_ordinal Fa_DEFLATE_ordinal (fun q => absurd (Value.int.inj q) (by decide))) (Value.ref.inj q)) (by decide) (by decide) ?_
   show St p e below T8 (mkF m 25 #[.val (.ref a_CCITT_T4)] []) t
   refine XT.iconstV X8.here hx rfl (0 : Int32) (hb hby d1_25) (by decide) ?_
   exact k)
 obtain ⟨fs, hr, hrun, hended, hW, hsame⟩ := X8.leave (v := some (.int (0 : Int32))) (fun h => by rw [Bd.returns] at h; cases h)
 refine ⟨_, _, p10 _ ?_, hrun, hended, _, _, rfl, ?_, ⟨_, rfl⟩, hW, hsame.mono (by decide) (by decide)⟩
 · exact retOut X8 hx Bd.returns rfl (Or.inl ⟨rfl, by simp, _, rfl⟩) (hb hby d1_26) hr
 · show Q1_2 Z a_NONE a_LZW a_ZLIB a_DEFLATE a_CCITT_T6 a_CCITT_RLE a_CCITT_T4 a_PACKBITS a_OLD_JPEG a_JPEG h0 n0 _ T8.heap _
   exact ⟨N0, e8, rfl⟩
def Q1_3 (Z : State) (a_NONE : Addr) (a_LZW : Addr) (a_ZLIB : Addr) (a_DEFLATE : Addr) (a_CCITT_T6 : Addr) (a_CCITT_RLE : Addr) (a_CCITT_T4 : Addr) (a_PACKBITS : Addr) (a_OLD_JPEG : Addr) (a_JPEG : Addr) (h0 : Heap) (n0 : Nat) (v : Option Value) (h : Heap) (L : List Loc) : Prop := Fr n0 L ∧ h = h0 ∧ ((v = some (.int (0 : Int32))))
set_option maxRecDepth 65536 in
set_option maxHeartbeats 40000000 in
theorem rm1_3 (l : Launch) (Z : State) (a0 : Array Value) (hw : ∀ d ∈ tables_1, d.before a0 Z = true) (ws : List Jvm.Cond) (a_NONE : Addr) (a_LZW : Addr) (a_ZLIB : Addr) (a_DEFLATE : Addr) (a_CCITT_T6 : Addr) (a_CCITT_RLE : Addr) (a_CCITT_T4 : Addr) (a_PACKBITS : Addr) (a_OLD_JPEG : Addr) (a_JPEG : Addr) (h0 : Heap) (n0 : Nat) (O0 : Old Z n0 h0) (HE : Env1 Z a_NONE a_LZW a_ZLIB a_DEFLATE a_CCITT_T6 a_CCITT_RLE a_CCITT_T4 a_PACKBITS a_OLD_JPEG a_JPEG)  :
    MetFree l M0 (head1 (Jvm.Cond.code M0 prog_68_method_9_code 1 (some .boolean) :: ws) ({ frames := 0, cells := 0, slots := 0, locals := 0 } : Room)) (fun a U => a = #[(.ref a_CCITT_T6)] ∧ Z.Warmed39 U.vm ∧ U.heap = h0) (fun _ _ _ _ _ => True) (fun _ U o U' => ∃ v L, o = .returned v ∧ Q1_3 Z a_NONE a_LZW a_ZLIB a_DEFLATE a_CCITT_T6 a_CCITT_RLE a_CCITT_T4 a_PACKBITS a_OLD_JPEG a_JPEG h0 n0 v U'.heap L ∧ FrameEnd U o U' L ({ frames := 0, cells := 0, slots := 0, locals := 0 } : Room).cells ({ frames := 0, cells := 0, slots := 0, locals := 0 } : Room).slots) := by
 refine MetFree.of_bodySF (plainFor_of_name pn1) hisR ?_
 intro p e s m args below meth c s₁ Bd hml0 hP hK
 obtain ⟨rfl, hZ, hh⟩ := hP
 have hx := Bd.exec
 have hby := Bd.bytes
 have hml : c.maxLocals = 1 := hml0
 have hown : s.vm.findClass "dev/ambrotype/imageio/TiffCompression" = some m.cls := findClass_of_methodNamed Bd.named
 have hnm := (name_of_methodNamed Bd.named Bd.method).1
 have X0 : Stand p l e ({ frames := 0, cells := 0, slots := 0, locals := 0 } : Room) s m #[(.ref a_CCITT_T6)] below meth c s₁ [] 0 0 := Stand.of_body Bd
 have e0 : s₁.heap = h0 := by rw [← hh, Bd.state]; rfl
 have N0 := Fr.nil n0
 let S0 : State → Prop := fun t => Steps p.tables e below (s₁.setTop (entryFrame m #[(.ref a_CCITT_T6)] 1)) t
 have p0 : ∀ t, St p e below s₁ (mkF m 0 #[.val (.ref a_CCITT_T6)] []) t → S0 t := fun t k => castTop (ef1 m a_CCITT_T6) k
 have HE' := HE
 obtain ⟨Sa_NONE, Ea_NONE, Sa_LZW, Ea_LZW, Fa_NONE_ordinal, Fa_LZW_ordinal, Sa_ZLIB, Ea_ZLIB, Fa_ZLIB_ordinal, Sa_DEFLATE, Ea_DEFLATE, Fa_DEFLATE_ordinal, Sa_CCITT_T6, Ea_CCITT_T6, Fa_CCITT_T6_ordinal, Sa_CCITT_RLE, Ea_CCITT_RLE, Fa_CCITT_RLE_ordinal, Sa_CCITT_T4, Ea_CCITT_T4, Fa_CCITT_T4_ordinal, Sa_PACKBITS, Ea_PACKBITS, Fa_PACKBITS_ordinal, Sa_OLD_JPEG, Ea_OLD_JPEG, Fa_OLD_JPEG_ordinal, Sa_JPEG, Ea_JPEG, Fa_JPEG_ordinal⟩ := HE
 have p1 : ∀ t, St p e below s₁ (mkF m 1 #[.val (.ref a_CCITT_T6)] [(.ref a_CCITT_T6)]) t → S0 t := fun t k => p0 t (by
   show St p e below s₁ (mkF m 0 #[.val (.ref a_CCITT_T6)] []) t
   refine XS.aloadN X0.here hx rfl (hb hby d1_0) rfl rfl ?_
   exact k)
 obtain ⟨T2, X2, e2, st2⟩ := getS2 X0 hx hZ hown (host := "") (Or.inl (ww hw 9 rfl)) Via.refl e0 (Sa_LZW.ext O0.2) (g := (mkF m 1 #[.val (.ref a_CCITT_T6)] [(.ref a_CCITT_T6)])) rfl (hb hby d1_1)
 have p3 : ∀ t, St p e below T2 (mkF m 4 #[.val (.ref a_CCITT_T6)] [(.ref a_LZW), (.ref a_CCITT_T6)]) t → S0 t := fun t k => p1 t (st2 t k)
 have p4 : ∀ t, St p e below T2 (mkF m 8 #[.val (.ref a_CCITT_T6)] [(.ref a_CCITT_T6)]) t → S0 t := fun t k => p3 t (by
   show St p e below T2 (mkF m 4 #[.val (.ref a_CCITT_T6)] [(.ref a_LZW), (.ref a_CCITT_T6)]) t
   refine Jvm.RoadKit.acmp (g := (mkF m 4 #[.val (.ref a_CCITT_T6)] [(.ref a_LZW), (.ref a_CCITT_T6)])) X2 hx rfl rfl rfl (pc0 := 4) (pc' := 7) (same := false) rfl (hb hby d1_4) rfl (decide_eq_false fun q => (Fld.ne Fa_CCITT_T6_ordinal Fa_LZW_ordinal (fun q => absurd (Value.int.inj q) (by decide))) (Value.ref.inj q)) (by decide) (by decide) ?_
   show St p e below T2 (mkF m 7 #[.val (.ref a_CCITT_T6)] []) t
   refine XS.aloadN X2.here hx rfl (hb hby d1_7) rfl rfl ?_
   exact k)
 obtain ⟨T5, X5, e5, st5⟩ := getS2 X2 hx hZ hown (host := "") (Or.inl (ww hw 11 rfl)) Via.refl e2 (Sa_ZLIB.ext O0.2) (g := (mkF m 8 #[.val (.ref a_CCITT_T6)] [(.ref a_CCITT_T6)])) rfl (hb hby d1_8)
 have p6 : ∀ t, St p e below T5 (mkF m 11 #[.val (.ref a_CCITT_T6)] [(.ref a_ZLIB), (.ref a_CCITT_T6)]) t → S0 t := fun t k => p4 t (st5 t k)
 have p7 : ∀ t, St p e below T5 (mkF m 15 #[.val (.ref a_CCITT_T6)] [(.ref a_CCITT_T6)]) t → S0 t := fun t k => p6 t (by
   show St p e below T5 (mkF m 11 #[.val (.ref a_CCITT_T6)] [(.ref a_ZLIB), (.ref a_CCITT_T6)]) t
   refine Jvm.RoadKit.acmp (g := (mkF m 11 #[.val (.ref a_CCITT_T6)] [(.ref a_ZLIB), (.ref a_CCITT_T6)])) X5 hx rfl rfl rfl (pc0 := 11) (pc' := 14) (same := false) rfl (hb hby d1_11) rfl (decide_eq_false fun q => (Fld.ne Fa_CCITT_T6_ordinal Fa_ZLIB_ordinal (fun q => absurd (Value.int.inj q) (by decide))) (Value.ref.inj q)) (by decide) (by decide) ?_
   show St p e below T5 (mkF m 14 #[.val (.ref a_CCITT_T6)] []) t
   refine XS.aloadN X5.here hx rfl (hb hby d1_14) rfl rfl ?_
   exact k)
 obtain ⟨T8, X8, e8, st8⟩ := getS2 X5 hx hZ hown (host := "") (Or.inl (ww hw 13 rfl)) Via.refl e5 (Sa_DEFLATE.ext O0.2) (g := (mkF m 15 #[.val (.ref a_CCITT_T6)] [(.ref a_CCITT_T6)])) rfl (hb hby d1_15)
 have p9 : ∀ t, St p e below T8 (mkF m 18 #[.val (.ref a_CCITT_T6)] [(.ref a_DEFLATE), (.ref a_CCITT_T6)]) t → S0 t := fun t k => p7 t (st8 t k)
 have p10 : ∀ t, St p e below T8 (mkF m 26 #[.val (.ref a_CCITT_T6)] [(.int (0 : Int32))]) t → S0 t := fun t k => p9 t (by
   show St p e below T8 (mkF m 18 #[.val (.ref a_CCITT_T6)] [(.ref a_DEFLATE), (.ref a_CCITT_T6)]) t
   refine Jvm.RoadKit.acmp (g := (mkF m 18 #[.val (.ref a_CCITT_T6)] [(.ref a_DEFLATE), (.ref a_CCITT_T6)])) X8 hx rfl rfl rfl (pc0 := 18) (pc' := 25) (same := false) rfl (hb hby d1_18) rfl (decide_eq_false fun q => (Fld.ne Fa_CCITT_T6_ordinal Fa_DEFLATE_ordinal (fun q => absurd (Value.int.inj q) (by decide))) (Value.ref.inj q)) (by decide) (by decide) ?_
   show St p e below T8 (mkF m 25 #[.val (.ref a_CCITT_T6)] []) t
   refine XT.iconstV X8.here hx rfl (0 : Int32) (hb hby d1_25) (by decide) ?_
   exact k)
 obtain ⟨fs, hr, hrun, hended, hW, hsame⟩ := X8.leave (v := some (.int (0 : Int32))) (fun h => by rw [Bd.returns] at h; cases h)
 refine ⟨_, _, p10 _ ?_, hrun, hended, _, _, rfl, ?_, ⟨_, rfl⟩, hW, hsame.mono (by decide) (by decide)⟩
 · exact retOut X8 hx Bd.returns rfl (Or.inl ⟨rfl, by simp, _, rfl⟩) (hb hby d1_26) hr
 · show Q1_3 Z a_NONE a_LZW a_ZLIB a_DEFLATE a_CCITT_T6 a_CCITT_RLE a_CCITT_T4 a_PACKBITS a_OLD_JPEG a_JPEG h0 n0 _ T8.heap _
   exact ⟨N0, e8, rfl⟩
theorem d1_21 : decode prog_68_method_9_code 21 = .ok (.iconst 1, 1) := by decide +kernel
theorem d1_22 : decode prog_68_method_9_code 22 = .ok (.goto 4, 3) := by decide +kernel
def Q1_4 (Z : State) (a_NONE : Addr) (a_LZW : Addr) (a_ZLIB : Addr) (a_DEFLATE : Addr) (a_CCITT_T6 : Addr) (a_CCITT_RLE : Addr) (a_CCITT_T4 : Addr) (a_PACKBITS : Addr) (a_OLD_JPEG : Addr) (a_JPEG : Addr) (h0 : Heap) (n0 : Nat) (v : Option Value) (h : Heap) (L : List Loc) : Prop := Fr n0 L ∧ h = h0 ∧ ((v = some (.int (1 : Int32))))
set_option maxRecDepth 65536 in
set_option maxHeartbeats 40000000 in
theorem rm1_4 (l : Launch) (Z : State) (a0 : Array Value) (hw : ∀ d ∈ tables_1, d.before a0 Z = true) (ws : List Jvm.Cond) (a_NONE : Addr) (a_LZW : Addr) (a_ZLIB : Addr) (a_DEFLATE : Addr) (a_CCITT_T6 : Addr) (a_CCITT_RLE : Addr) (a_CCITT_T4 : Addr) (a_PACKBITS : Addr) (a_OLD_JPEG : Addr) (a_JPEG : Addr) (h0 : Heap) (n0 : Nat) (O0 : Old Z n0 h0) (HE : Env1 Z a_NONE a_LZW a_ZLIB a_DEFLATE a_CCITT_T6 a_CCITT_RLE a_CCITT_T4 a_PACKBITS a_OLD_JPEG a_JPEG)  :
    MetFree l M0 (head1 (Jvm.Cond.code M0 prog_68_method_9_code 1 (some .boolean) :: ws) ({ frames := 0, cells := 0, slots := 0, locals := 0 } : Room)) (fun a U => a = #[(.ref a_LZW)] ∧ Z.Warmed39 U.vm ∧ U.heap = h0) (fun _ _ _ _ _ => True) (fun _ U o U' => ∃ v L, o = .returned v ∧ Q1_4 Z a_NONE a_LZW a_ZLIB a_DEFLATE a_CCITT_T6 a_CCITT_RLE a_CCITT_T4 a_PACKBITS a_OLD_JPEG a_JPEG h0 n0 v U'.heap L ∧ FrameEnd U o U' L ({ frames := 0, cells := 0, slots := 0, locals := 0 } : Room).cells ({ frames := 0, cells := 0, slots := 0, locals := 0 } : Room).slots) := by
 refine MetFree.of_bodySF (plainFor_of_name pn1) hisR ?_
 intro p e s m args below meth c s₁ Bd hml0 hP hK
 obtain ⟨rfl, hZ, hh⟩ := hP
 have hx := Bd.exec
 have hby := Bd.bytes
 have hml : c.maxLocals = 1 := hml0
 have hown : s.vm.findClass "dev/ambrotype/imageio/TiffCompression" = some m.cls := findClass_of_methodNamed Bd.named
 have hnm := (name_of_methodNamed Bd.named Bd.method).1
 have X0 : Stand p l e ({ frames := 0, cells := 0, slots := 0, locals := 0 } : Room) s m #[(.ref a_LZW)] below meth c s₁ [] 0 0 := Stand.of_body Bd
 have e0 : s₁.heap = h0 := by rw [← hh, Bd.state]; rfl
 have N0 := Fr.nil n0
 let S0 : State → Prop := fun t => Steps p.tables e below (s₁.setTop (entryFrame m #[(.ref a_LZW)] 1)) t
 have p0 : ∀ t, St p e below s₁ (mkF m 0 #[.val (.ref a_LZW)] []) t → S0 t := fun t k => castTop (ef1 m a_LZW) k
 have HE' := HE
 obtain ⟨Sa_NONE, Ea_NONE, Sa_LZW, Ea_LZW, Fa_NONE_ordinal, Fa_LZW_ordinal, Sa_ZLIB, Ea_ZLIB, Fa_ZLIB_ordinal, Sa_DEFLATE, Ea_DEFLATE, Fa_DEFLATE_ordinal, Sa_CCITT_T6, Ea_CCITT_T6, Fa_CCITT_T6_ordinal, Sa_CCITT_RLE, Ea_CCITT_RLE, Fa_CCITT_RLE_ordinal, Sa_CCITT_T4, Ea_CCITT_T4, Fa_CCITT_T4_ordinal, Sa_PACKBITS, Ea_PACKBITS, Fa_PACKBITS_ordinal, Sa_OLD_JPEG, Ea_OLD_JPEG, Fa_OLD_JPEG_ordinal, Sa_JPEG, Ea_JPEG, Fa_JPEG_ordinal⟩ := HE
 have p1 : ∀ t, St p e below s₁ (mkF m 1 #[.val (.ref a_LZW)] [(.ref a_LZW)]) t → S0 t := fun t k => p0 t (by
   show St p e below s₁ (mkF m 0 #[.val (.ref a_LZW)] []) t
   refine XS.aloadN X0.here hx rfl (hb hby d1_0) rfl rfl ?_
   exact k)
 obtain ⟨T2, X2, e2, st2⟩ := getS2 X0 hx hZ hown (host := "") (Or.inl (ww hw 9 rfl)) Via.refl e0 (Sa_LZW.ext O0.2) (g := (mkF m 1 #[.val (.ref a_LZW)] [(.ref a_LZW)])) rfl (hb hby d1_1)
 have p3 : ∀ t, St p e below T2 (mkF m 4 #[.val (.ref a_LZW)] [(.ref a_LZW), (.ref a_LZW)]) t → S0 t := fun t k => p1 t (st2 t k)
 have p4 : ∀ t, St p e below T2 (mkF m 26 #[.val (.ref a_LZW)] [(.int (1 : Int32))]) t → S0 t := fun t k => p3 t (by
   show St p e below T2 (mkF m 4 #[.val (.ref a_LZW)] [(.ref a_LZW), (.ref a_LZW)]) t
   refine Jvm.RoadKit.acmp (g := (mkF m 4 #[.val (.ref a_LZW)] [(.ref a_LZW), (.ref a_LZW)])) X2 hx rfl rfl rfl (pc0 := 4) (pc' := 21) (same := true) rfl (hb hby d1_4) rfl (decide_eq_true rfl) (by decide) (by decide) ?_
   show St p e below T2 (mkF m 21 #[.val (.ref a_LZW)] []) t
   refine XT.iconstV X2.here hx rfl (1 : Int32) (hb hby d1_21) (by decide) ?_
   show St p e below T2 (mkF m 22 #[.val (.ref a_LZW)] [(.int (1 : Int32))]) t
   refine XS.goto X2.here hx rfl (pc0 := 22) (pc' := 26) rfl (hb hby d1_22) (by decide) (by decide) ?_
   exact k)
 obtain ⟨fs, hr, hrun, hended, hW, hsame⟩ := X2.leave (v := some (.int (1 : Int32))) (fun h => by rw [Bd.returns] at h; cases h)
 refine ⟨_, _, p4 _ ?_, hrun, hended, _, _, rfl, ?_, ⟨_, rfl⟩, hW, hsame.mono (by decide) (by decide)⟩
 · exact retOut X2 hx Bd.returns rfl (Or.inl ⟨rfl, by simp, _, rfl⟩) (hb hby d1_26) hr
 · show Q1_4 Z a_NONE a_LZW a_ZLIB a_DEFLATE a_CCITT_T6 a_CCITT_RLE a_CCITT_T4 a_PACKBITS a_OLD_JPEG a_JPEG h0 n0 _ T2.heap _
   exact ⟨N0, e2, rfl⟩
theorem ef2 (m : MethodId) (x0 : Addr) : entryFrame m #[(.ref x0)] 1 = mkF m 0 #[.val (.ref x0)] [] := by first | (simp [entryFrame, mkF, argsToLocals, Value.category]; done) | rfl
theorem d2_0 : decode prog_68_method_7_code 0 = .ok (.aload_n 0, 1) := by decide +kernel
theorem ef3 (m : MethodId) (x0 : Addr) : entryFrame m #[(.ref x0)] 1 = mkF m 0 #[.val (.ref x0)] [] := by first | (simp [entryFrame, mkF, argsToLocals, Value.category]; done) | rfl
theorem pn2 : plainName "java/lang/Enum" = true := by first | (simp [plainName, overriddenIn]; done) | decide +kernel
theorem d3_0 : decode jdk_37_method_2_code 0 = .ok (.aload_n 0, 1) := by decide +kernel
theorem d3_1 : decode jdk_37_method_2_code 1 = .ok (.getfield 7, 3) := by decide +kernel
theorem d3_4 : decode jdk_37_method_2_code 4 = .ok (.ireturn, 1) := by decide +kernel
def Q3_6 (Z : State) (a_NONE : Addr) (a_LZW : Addr) (a_ZLIB : Addr) (a_DEFLATE : Addr) (a_CCITT_T6 : Addr) (a_CCITT_RLE : Addr) (a_CCITT_T4 : Addr) (a_PACKBITS : Addr) (a_OLD_JPEG : Addr) (a_JPEG : Addr) (h0 : Heap) (n0 : Nat) (v : Option Value) (h : Heap) (L : List Loc) : Prop := Fr n0 L ∧ h = h0 ∧ ((v = some (.int (4 : Int32))))
set_option maxRecDepth 65536 in
set_option maxHeartbeats 40000000 in
theorem rm3_6 (l : Launch) (Z : State) (a0 : Array Value) (hw : ∀ d ∈ tables_1, d.before a0 Z = true) (ws : List Jvm.Cond) (a_NONE : Addr) (a_LZW : Addr) (a_ZLIB : Addr) (a_DEFLATE : Addr) (a_CCITT_T6 : Addr) (a_CCITT_RLE : Addr) (a_CCITT_T4 : Addr) (a_PACKBITS : Addr) (a_OLD_JPEG : Addr) (a_JPEG : Addr) (h0 : Heap) (n0 : Nat) (O0 : Old Z n0 h0) (HE : Env1 Z a_NONE a_LZW a_ZLIB a_DEFLATE a_CCITT_T6 a_CCITT_RLE a_CCITT_T4 a_PACKBITS a_OLD_JPEG a_JPEG)  :
    MetFree l M1 (head1 (Jvm.Cond.code M1 jdk_37_method_2_code 1 (some .int) :: ws) ({ frames := 0, cells := 0, slots := 0, locals := 0 } : Room)) (fun a U => a = #[(.ref a_LZW)] ∧ Z.Warmed39 U.vm ∧ U.heap = h0) (fun _ _ _ _ _ => True) (fun _ U o U' => ∃ v L, o = .returned v ∧ Q3_6 Z a_NONE a_LZW a_ZLIB a_DEFLATE a_CCITT_T6 a_CCITT_RLE a_CCITT_T4 a_PACKBITS a_OLD_JPEG a_JPEG h0 n0 v U'.heap L ∧ FrameEnd U o U' L ({ frames := 0, cells := 0, slots := 0, locals := 0 } : Room).cells ({ frames := 0, cells := 0, slots := 0, locals := 0 } : Room).slots) := by
 refine MetFree.of_bodySF (plainFor_of_name pn2) hisR ?_
 intro p e s m args below meth c s₁ Bd hml0 hP hK
 obtain ⟨rfl, hZ, hh⟩ := hP
 have hx := Bd.exec
 have hby := Bd.bytes
 have hml : c.maxLocals = 1 := hml0
 have hown : s.vm.findClass "java/lang/Enum" = some m.cls := findClass_of_methodNamed Bd.named
 have hnm := (name_of_methodNamed Bd.named Bd.method).1
 have X0 : Stand p l e ({ frames := 0, cells := 0, slots := 0, locals := 0 } : Room) s m #[(.ref a_LZW)] below meth c s₁ [] 0 0 := Stand.of_body Bd
 have e0 : s₁.heap = h0 := by rw [← hh, Bd.state]; rfl
 have N0 := Fr.nil n0
 let S0 : State → Prop := fun t => Steps p.tables e below (s₁.setTop (entryFrame m #[(.ref a_LZW)] 1)) t
 have p0 : ∀ t, St p e below s₁ (mkF m 0 #[.val (.ref a_LZW)] []) t → S0 t := fun t k => castTop (ef3 m a_LZW) k
 have HE' := HE
 obtain ⟨Sa_NONE, Ea_NONE, Sa_LZW, Ea_LZW, Fa_NONE_ordinal, Fa_LZW_ordinal, Sa_ZLIB, Ea_ZLIB, Fa_ZLIB_ordinal, Sa_DEFLATE, Ea_DEFLATE, Fa_DEFLATE_ordinal, Sa_CCITT_T6, Ea_CCITT_T6, Fa_CCITT_T6_ordinal, Sa_CCITT_RLE, Ea_CCITT_RLE, Fa_CCITT_RLE_ordinal, Sa_CCITT_T4, Ea_CCITT_T4, Fa_CCITT_T4_ordinal, Sa_PACKBITS, Ea_PACKBITS, Fa_PACKBITS_ordinal, Sa_OLD_JPEG, Ea_OLD_JPEG, Fa_OLD_JPEG_ordinal, Sa_JPEG, Ea_JPEG, Fa_JPEG_ordinal⟩ := HE
 have p1 : ∀ t, St p e below s₁ (mkF m 1 #[.val (.ref a_LZW)] [(.ref a_LZW)]) t → S0 t := fun t k => p0 t (by
   show St p e below s₁ (mkF m 0 #[.val (.ref a_LZW)] []) t
   refine XS.aloadN X0.here hx rfl (hb hby d3_0) rfl rfl ?_
   exact k)
 obtain ⟨T2, X2, e2, st2⟩ := getF X0 hx hZ hown (host := "") (Or.inl (ww hw 32 rfl)) Via.refl e0 (Fa_LZW_ordinal.ext O0.2) (g := (mkF m 1 #[.val (.ref a_LZW)] [(.ref a_LZW)])) rfl rfl (hb hby d3_1)
 have p3 : ∀ t, St p e below T2 (mkF m 4 #[.val (.ref a_LZW)] [(.int (4 : Int32))]) t → S0 t := fun t k => p1 t (st2 t k)
 obtain ⟨fs, hr, hrun, hended, hW, hsame⟩ := X2.leave (v := some (.int (4 : Int32))) (fun h => by rw [Bd.returns] at h; cases h)
 refine ⟨_, _, p3 _ ?_, hrun, hended, _, _, rfl, ?_, ⟨_, rfl⟩, hW, hsame.mono (by decide) (by decide)⟩
 · exact retOut X2 hx Bd.returns rfl (Or.inl ⟨rfl, by simp, _, rfl⟩) (hb hby d3_4) hr
 · show Q3_6 Z a_NONE a_LZW a_ZLIB a_DEFLATE a_CCITT_T6 a_CCITT_RLE a_CCITT_T4 a_PACKBITS a_OLD_JPEG a_JPEG h0 n0 _ T2.heap _
   exact ⟨N0, e2, rfl⟩
theorem pd1 : parseMethodDescriptor "()I" = some ⟨[], some .int⟩ := by decide +kernel
theorem d2_1 : decode prog_68_method_7_code 1 = .ok (.invokevirtual 83, 3) := by decide +kernel
theorem d2_4 : decode prog_68_method_7_code 4 = .ok (.tableswitch 60 0 9 #[56, 60, 60, 60, 56, 60, 60, 56, 56, 56], 56) := by decide +kernel
theorem d2_60 : decode prog_68_method_7_code 60 = .ok (.iconst 1, 1) := by decide +kernel
theorem d2_61 : decode prog_68_method_7_code 61 = .ok (.goto 4, 3) := by decide +kernel
theorem d2_65 : decode prog_68_method_7_code 65 = .ok (.ireturn, 1) := by decide +kernel
def Q2_5 (Z : State) (a_NONE : Addr) (a_LZW : Addr) (a_ZLIB : Addr) (a_DEFLATE : Addr) (a_CCITT_T6 : Addr) (a_CCITT_RLE : Addr) (a_CCITT_T4 : Addr) (a_PACKBITS : Addr) (a_OLD_JPEG : Addr) (a_JPEG : Addr) (h0 : Heap) (n0 : Nat) (v : Option Value) (h : Heap) (L : List Loc) : Prop := Fr n0 L ∧ h = h0 ∧ ((v = some (.int (1 : Int32))))
set_option maxRecDepth 65536 in
set_option maxHeartbeats 40000000 in
theorem rm2_5 (l : Launch) (Z : State) (a0 : Array Value) (hw : ∀ d ∈ tables_1, d.before a0 Z = true) (ws : List Jvm.Cond) (a_NONE : Addr) (a_LZW : Addr) (a_ZLIB : Addr) (a_DEFLATE : Addr) (a_CCITT_T6 : Addr) (a_CCITT_RLE : Addr) (a_CCITT_T4 : Addr) (a_PACKBITS : Addr) (a_OLD_JPEG : Addr) (a_JPEG : Addr) (h0 : Heap) (n0 : Nat) (O0 : Old Z n0 h0) (HE : Env1 Z a_NONE a_LZW a_ZLIB a_DEFLATE a_CCITT_T6 a_CCITT_RLE a_CCITT_T4 a_PACKBITS a_OLD_JPEG a_JPEG)  :
    MetFree l M3 (head1 (Jvm.Cond.code M3 prog_68_method_7_code 1 (some .boolean) :: ws) ({ frames := 1, cells := 0, slots := 0, locals := 12 } : Room)) (fun a U => a = #[(.ref a_LZW)] ∧ Z.Warmed39 U.vm ∧ U.heap = h0) (fun _ _ _ _ _ => True) (fun _ U o U' => ∃ v L, o = .returned v ∧ Q2_5 Z a_NONE a_LZW a_ZLIB a_DEFLATE a_CCITT_T6 a_CCITT_RLE a_CCITT_T4 a_PACKBITS a_OLD_JPEG a_JPEG h0 n0 v U'.heap L ∧ FrameEnd U o U' L ({ frames := 1, cells := 0, slots := 0, locals := 12 } : Room).cells ({ frames := 1, cells := 0, slots := 0, locals := 12 } : Room).slots) := by
 refine MetFree.of_bodySF (plainFor_of_name pn1) hisR ?_
 intro p e s m args below meth c s₁ Bd hml0 hP hK
 obtain ⟨rfl, hZ, hh⟩ := hP
 have hx := Bd.exec
 have hby := Bd.bytes
 have hml : c.maxLocals = 1 := hml0
 have hown : s.vm.findClass "dev/ambrotype/imageio/TiffCompression" = some m.cls := findClass_of_methodNamed Bd.named
 have hnm := (name_of_methodNamed Bd.named Bd.method).1
 have X0 : Stand p l e ({ frames := 1, cells := 0, slots := 0, locals := 12 } : Room) s m #[(.ref a_LZW)] below meth c s₁ [] 0 0 := Stand.of_body Bd
 have e0 : s₁.heap = h0 := by rw [← hh, Bd.state]; rfl
 have N0 := Fr.nil n0
 let S0 : State → Prop := fun t => Steps p.tables e below (s₁.setTop (entryFrame m #[(.ref a_LZW)] 1)) t
 have p0 : ∀ t, St p e below s₁ (mkF m 0 #[.val (.ref a_LZW)] []) t → S0 t := fun t k => castTop (ef2 m a_LZW) k
 have HE' := HE
 obtain ⟨Sa_NONE, Ea_NONE, Sa_LZW, Ea_LZW, Fa_NONE_ordinal, Fa_LZW_ordinal, Sa_ZLIB, Ea_ZLIB, Fa_ZLIB_ordinal, Sa_DEFLATE, Ea_DEFLATE, Fa_DEFLATE_ordinal, Sa_CCITT_T6, Ea_CCITT_T6, Fa_CCITT_T6_ordinal, Sa_CCITT_RLE, Ea_CCITT_RLE, Fa_CCITT_RLE_ordinal, Sa_CCITT_T4, Ea_CCITT_T4, Fa_CCITT_T4_ordinal, Sa_PACKBITS, Ea_PACKBITS, Fa_PACKBITS_ordinal, Sa_OLD_JPEG, Ea_OLD_JPEG, Fa_OLD_JPEG_ordinal, Sa_JPEG, Ea_JPEG, Fa_JPEG_ordinal⟩ := HE
 have p1 : ∀ t, St p e below s₁ (mkF m 1 #[.val (.ref a_LZW)] [(.ref a_LZW)]) t → S0 t := fun t k => p0 t (by
   show St p e below s₁ (mkF m 0 #[.val (.ref a_LZW)] []) t
   refine XS.aloadN X0.here hx rfl (hb hby d2_0) rfl rfl ?_
   exact k)
 obtain ⟨cqc2, kqc2, qc2a, qc2b, qc2c⟩ := isOf hZ e0 (Ea_LZW.ext O0.2)
 obtain ⟨_, _, ⟨Tc2, Lc2, kc2, nc2⟩, -, Xc2, ⟨Lcc2, hQc2, lc2, yc2, zc2⟩, stc2⟩ := X0.virtualBackUp hx (owner := "java/lang/Enum") (x := M2) (y := M1) hown (mvT hZ (ww hw 25 rfl)) (mvT hZ (ww hw 26 rfl)) (mvT hZ (ww hw 27 rfl)) (by decide) (mvT hZ (ww hw 29 rfl)) (mvT hZ (ww hw 28 rfl)) (backOf (W := 0) (rm3_6 l Z a0 hw [] a_NONE a_LZW a_ZLIB a_DEFLATE a_CCITT_T6 a_CCITT_RLE a_CCITT_T4 a_PACKBITS a_OLD_JPEG a_JPEG h0 n0 O0 HE' ) hZ (ww hw 31 rfl) (ww hw 30 rfl) (by decide) (by decide)) qc2a qc2c (g := (mkF m 1 #[.val (.ref a_LZW)] [(.ref a_LZW)])) rfl (by rw [hml]; rfl) (Steps.refl _) (argsL := []) (rest := []) (lenOf pd1 rfl) rfl (by show 2 * 0 + _ ≤ _; exact Nat.le_of_eq rfl) (hb hby d2_1) (fun _ _ => ⟨rfl, e0, (by decide : 0 + 0 ≤ _), (by decide : 0 + 0 ≤ _)⟩)
 dsimp only [Pt.U, Pt.locs, Pt.cells, Pt.slots] at Xc2 lc2 yc2 zc2 stc2 hQc2
 subst lc2 yc2 zc2
 obtain ⟨Nqc2, ec2, hAc2⟩ := hQc2
 have Nc2 := Fr.app N0 Nqc2
 obtain rfl := hAc2
 have p3 : ∀ t, St p e below Tc2 (mkF m 4 #[.val (.ref a_LZW)] [(.int (4 : Int32))]) t → S0 t := fun t k => p1 t (stc2.trans k)
 have p4 : ∀ t, St p e below Tc2 (mkF m 65 #[.val (.ref a_LZW)] [(.int (1 : Int32))]) t → S0 t := fun t k => p3 t (by
   show St p e below Tc2 (mkF m 4 #[.val (.ref a_LZW)] [(.int (4 : Int32))]) t
   refine XS.tswIn Xc2.here hx rfl (pc0 := 4) (pc' := 60) rfl (hb hby d2_4) rfl (by decide) (o := 56) (by decide) (by decide) (by decide) ?_
   show St p e below Tc2 (mkF m 60 #[.val (.ref a_LZW)] []) t
   refine XT.iconstV Xc2.here hx rfl (1 : Int32) (hb hby d2_60) (by decide) ?_
   show St p e below Tc2 (mkF m 61 #[.val (.ref a_LZW)] [(.int (1 : Int32))]) t
   refine XS.goto Xc2.here hx rfl (pc0 := 61) (pc' := 65) rfl (hb hby d2_61) (by decide) (by decide) ?_
   exact k)
 obtain ⟨fs, hr, hrun, hended, hW, hsame⟩ := Xc2.leave (v := some (.int (1 : Int32))) (fun h => by rw [Bd.returns] at h; cases h)
 refine ⟨_, _, p4 _ ?_, hrun, hended, _, _, rfl, ?_, ⟨_, rfl⟩, hW, hsame.mono (by decide) (by decide)⟩
 · exact retOut Xc2 hx Bd.returns rfl (Or.inl ⟨rfl, by simp, _, rfl⟩) (hb hby d2_65) hr
 · show Q2_5 Z a_NONE a_LZW a_ZLIB a_DEFLATE a_CCITT_T6 a_CCITT_RLE a_CCITT_T4 a_PACKBITS a_OLD_JPEG a_JPEG h0 n0 _ Tc2.heap _
   exact ⟨Nc2, ec2, rfl⟩
def Q1_7 (Z : State) (a_NONE : Addr) (a_LZW : Addr) (a_ZLIB : Addr) (a_DEFLATE : Addr) (a_CCITT_T6 : Addr) (a_CCITT_RLE : Addr) (a_CCITT_T4 : Addr) (a_PACKBITS : Addr) (a_OLD_JPEG : Addr) (a_JPEG : Addr) (h0 : Heap) (n0 : Nat) (v : Option Value) (h : Heap) (L : List Loc) : Prop := Fr n0 L ∧ h = h0 ∧ ((v = some (.int (0 : Int32))))
set_option maxRecDepth 65536 in
set_option maxHeartbeats 40000000 in
theorem rm1_7 (l : Launch) (Z : State) (a0 : Array Value) (hw : ∀ d ∈ tables_1, d.before a0 Z = true) (ws : List Jvm.Cond) (a_NONE : Addr) (a_LZW : Addr) (a_ZLIB : Addr) (a_DEFLATE : Addr) (a_CCITT_T6 : Addr) (a_CCITT_RLE : Addr) (a_CCITT_T4 : Addr) (a_PACKBITS : Addr) (a_OLD_JPEG : Addr) (a_JPEG : Addr) (h0 : Heap) (n0 : Nat) (O0 : Old Z n0 h0) (HE : Env1 Z a_NONE a_LZW a_ZLIB a_DEFLATE a_CCITT_T6 a_CCITT_RLE a_CCITT_T4 a_PACKBITS a_OLD_JPEG a_JPEG)  :
    MetFree l M0 (head1 (Jvm.Cond.code M0 prog_68_method_9_code 1 (some .boolean) :: ws) ({ frames := 0, cells := 0, slots := 0, locals := 0 } : Room)) (fun a U => a = #[(.ref a_OLD_JPEG)] ∧ Z.Warmed39 U.vm ∧ U.heap = h0) (fun _ _ _ _ _ => True) (fun _ U o U' => ∃ v L, o = .returned v ∧ Q1_7 Z a_NONE a_LZW a_ZLIB a_DEFLATE a_CCITT_T6 a_CCITT_RLE a_CCITT_T4 a_PACKBITS a_OLD_JPEG a_JPEG h0 n0 v U'.heap L ∧ FrameEnd U o U' L ({ frames := 0, cells := 0, slots := 0, locals := 0 } : Room).cells ({ frames := 0, cells := 0, slots := 0, locals := 0 } : Room).slots) := by
 refine MetFree.of_bodySF (plainFor_of_name pn1) hisR ?_
 intro p e s m args below meth c s₁ Bd hml0 hP hK
 obtain ⟨rfl, hZ, hh⟩ := hP
 have hx := Bd.exec
 have hby := Bd.bytes
 have hml : c.maxLocals = 1 := hml0
 have hown : s.vm.findClass "dev/ambrotype/imageio/TiffCompression" = some m.cls := findClass_of_methodNamed Bd.named
 have hnm := (name_of_methodNamed Bd.named Bd.method).1
 have X0 : Stand p l e ({ frames := 0, cells := 0, slots := 0, locals := 0 } : Room) s m #[(.ref a_OLD_JPEG)] below meth c s₁ [] 0 0 := Stand.of_body Bd
 have e0 : s₁.heap = h0 := by rw [← hh, Bd.state]; rfl
 have N0 := Fr.nil n0
 let S0 : State → Prop := fun t => Steps p.tables e below (s₁.setTop (entryFrame m #[(.ref a_OLD_JPEG)] 1)) t
 have p0 : ∀ t, St p e below s₁ (mkF m 0 #[.val (.ref a_OLD_JPEG)] []) t → S0 t := fun t k => castTop (ef1 m a_OLD_JPEG) k
 have HE' := HE
 obtain ⟨Sa_NONE, Ea_NONE, Sa_LZW, Ea_LZW, Fa_NONE_ordinal, Fa_LZW_ordinal, Sa_ZLIB, Ea_ZLIB, Fa_ZLIB_ordinal, Sa_DEFLATE, Ea_DEFLATE, Fa_DEFLATE_ordinal, Sa_CCITT_T6, Ea_CCITT_T6, Fa_CCITT_T6_ordinal, Sa_CCITT_RLE, Ea_CCITT_RLE, Fa_CCITT_RLE_ordinal, Sa_CCITT_T4, Ea_CCITT_T4, Fa_CCITT_T4_ordinal, Sa_PACKBITS, Ea_PACKBITS, Fa_PACKBITS_ordinal, Sa_OLD_JPEG, Ea_OLD_JPEG, Fa_OLD_JPEG_ordinal, Sa_JPEG, Ea_JPEG, Fa_JPEG_ordinal⟩ := HE
 have p1 : ∀ t, St p e below s₁ (mkF m 1 #[.val (.ref a_OLD_JPEG)] [(.ref a_OLD_JPEG)]) t → S0 t := fun t k => p0 t (by
   show St p e below s₁ (mkF m 0 #[.val (.ref a_OLD_JPEG)] []) t
   refine XS.aloadN X0.here hx rfl (hb hby d1_0) rfl rfl ?_
   exact k)
 obtain ⟨T2, X2, e2, st2⟩ := getS2 X0 hx hZ hown (host := "") (Or.inl (ww hw 9 rfl)) Via.refl e0 (Sa_LZW.ext O0.2) (g := (mkF m 1 #[.val (.ref a_OLD_JPEG)] [(.ref a_OLD_JPEG)])) rfl (hb hby d1_1)
 have p3 : ∀ t, St p e below T2 (mkF m 4 #[.val (.ref a_OLD_JPEG)] [(.ref a_LZW), (.ref a_OLD_JPEG)]) t → S0 t := fun t k => p1 t (st2 t k)
 have p4 : ∀ t, St p e below T2 (mkF m 8 #[.val (.ref a_OLD_JPEG)] [(.ref a_OLD_JPEG)]) t → S0 t := fun t k => p3 t (by
   show St p e below T2 (mkF m 4 #[.val (.ref a_OLD_JPEG)] [(.ref a_LZW), (.ref a_OLD_JPEG)]) t
   refine Jvm.RoadKit.acmp (g := (mkF m 4 #[.val (.ref a_OLD_JPEG)] [(.ref a_LZW), (.ref a_OLD_JPEG)])) X2 hx rfl rfl rfl (pc0 := 4) (pc' := 7) (same := false) rfl (hb hby d1_4) rfl (decide_eq_false fun q => (Fld.ne Fa_OLD_JPEG_ordinal Fa_LZW_ordinal (fun q => absurd (Value.int.inj q) (by decide))) (Value.ref.inj q)) (by decide) (by decide) ?_
   show St p e below T2 (mkF m 7 #[.val (.ref a_OLD_JPEG)] []) t
   refine XS.aloadN X2.here hx rfl (hb hby d1_7) rfl rfl ?_
   exact k)
 obtain ⟨T5, X5, e5, st5⟩ := getS2 X2 hx hZ hown (host := "") (Or.inl (ww hw 11 rfl)) Via.refl e2 (Sa_ZLIB.ext O0.2) (g := (mkF m 8 #[.val (.ref a_OLD_JPEG)] [(.ref a_OLD_JPEG)])) rfl (hb hby d1_8)
 have p6 : ∀ t, St p e below T5 (mkF m 11 #[.val (.ref a_OLD_JPEG)] [(.ref a_ZLIB), (.ref a_OLD_JPEG)]) t → S0 t := fun t k => p4 t (st5 t k)
 have p7 : ∀ t, St p e below T5 (mkF m 15 #[.val (.ref a_OLD_JPEG)] [(.ref a_OLD_JPEG)]) t → S0 t := fun t k => p6 t (by
   show St p e below T5 (mkF m 11 #[.val (.ref a_OLD_JPEG)] [(.ref a_ZLIB), (.ref a_OLD_JPEG)]) t
   refine Jvm.RoadKit.acmp (g := (mkF m 11 #[.val (.ref a_OLD_JPEG)] [(.ref a_ZLIB), (.ref a_OLD_JPEG)])) X5 hx rfl rfl rfl (pc0 := 11) (pc' := 14) (same := false) rfl (hb hby d1_11) rfl (decide_eq_false fun q => (Fld.ne Fa_OLD_JPEG_ordinal Fa_ZLIB_ordinal (fun q => absurd (Value.int.inj q) (by decide))) (Value.ref.inj q)) (by decide) (by decide) ?_
   show St p e below T5 (mkF m 14 #[.val (.ref a_OLD_JPEG)] []) t
   refine XS.aloadN X5.here hx rfl (hb hby d1_14) rfl rfl ?_
   exact k)
 obtain ⟨T8, X8, e8, st8⟩ := getS2 X5 hx hZ hown (host := "") (Or.inl (ww hw 13 rfl)) Via.refl e5 (Sa_DEFLATE.ext O0.2) (g := (mkF m 15 #[.val (.ref a_OLD_JPEG)] [(.ref a_OLD_JPEG)])) rfl (hb hby d1_15)
 have p9 : ∀ t, St p e below T8 (mkF m 18 #[.val (.ref a_OLD_JPEG)] [(.ref a_DEFLATE), (.ref a_OLD_JPEG)]) t → S0 t := fun t k => p7 t (st8 t k)
 have p10 : ∀ t, St p e below T8 (mkF m 26 #[.val (.ref a_OLD_JPEG)] [(.int (0 : Int32))]) t → S0 t := fun t k => p9 t (by
   show St p e below T8 (mkF m 18 #[.val (.ref a_OLD_JPEG)] [(.ref a_DEFLATE), (.ref a_OLD_JPEG)]) t
   refine Jvm.RoadKit.acmp (g := (mkF m 18 #[.val (.ref a_OLD_JPEG)] [(.ref a_DEFLATE), (.ref a_OLD_JPEG)])) X8 hx rfl rfl rfl (pc0 := 18) (pc' := 25) (same := false) rfl (hb hby d1_18) rfl (decide_eq_false fun q => (Fld.ne Fa_OLD_JPEG_ordinal Fa_DEFLATE_ordinal (fun q => absurd (Value.int.inj q) (by decide))) (Value.ref.inj q)) (by decide) (by decide) ?_
   show St p e below T8 (mkF m 25 #[.val (.ref a_OLD_JPEG)] []) t
   refine XT.iconstV X8.here hx rfl (0 : Int32) (hb hby d1_25) (by decide) ?_
   exact k)
 obtain ⟨fs, hr, hrun, hended, hW, hsame⟩ := X8.leave (v := some (.int (0 : Int32))) (fun h => by rw [Bd.returns] at h; cases h)
 refine ⟨_, _, p10 _ ?_, hrun, hended, _, _, rfl, ?_, ⟨_, rfl⟩, hW, hsame.mono (by decide) (by decide)⟩
 · exact retOut X8 hx Bd.returns rfl (Or.inl ⟨rfl, by simp, _, rfl⟩) (hb hby d1_26) hr
 · show Q1_7 Z a_NONE a_LZW a_ZLIB a_DEFLATE a_CCITT_T6 a_CCITT_RLE a_CCITT_T4 a_PACKBITS a_OLD_JPEG a_JPEG h0 n0 _ T8.heap _
   exact ⟨N0, e8, rfl⟩
def Q1_8 (Z : State) (a_NONE : Addr) (a_LZW : Addr) (a_ZLIB : Addr) (a_DEFLATE : Addr) (a_CCITT_T6 : Addr) (a_CCITT_RLE : Addr) (a_CCITT_T4 : Addr) (a_PACKBITS : Addr) (a_OLD_JPEG : Addr) (a_JPEG : Addr) (h0 : Heap) (n0 : Nat) (v : Option Value) (h : Heap) (L : List Loc) : Prop := Fr n0 L ∧ h = h0 ∧ ((v = some (.int (0 : Int32))))
set_option maxRecDepth 65536 in
set_option maxHeartbeats 40000000 in
theorem rm1_8 (l : Launch) (Z : State) (a0 : Array Value) (hw : ∀ d ∈ tables_1, d.before a0 Z = true) (ws : List Jvm.Cond) (a_NONE : Addr) (a_LZW : Addr) (a_ZLIB : Addr) (a_DEFLATE : Addr) (a_CCITT_T6 : Addr) (a_CCITT_RLE : Addr) (a_CCITT_T4 : Addr) (a_PACKBITS : Addr) (a_OLD_JPEG : Addr) (a_JPEG : Addr) (h0 : Heap) (n0 : Nat) (O0 : Old Z n0 h0) (HE : Env1 Z a_NONE a_LZW a_ZLIB a_DEFLATE a_CCITT_T6 a_CCITT_RLE a_CCITT_T4 a_PACKBITS a_OLD_JPEG a_JPEG)  :
    MetFree l M0 (head1 (Jvm.Cond.code M0 prog_68_method_9_code 1 (some .boolean) :: ws) ({ frames := 0, cells := 0, slots := 0, locals := 0 } : Room)) (fun a U => a = #[(.ref a_JPEG)] ∧ Z.Warmed39 U.vm ∧ U.heap = h0) (fun _ _ _ _ _ => True) (fun _ U o U' => ∃ v L, o = .returned v ∧ Q1_8 Z a_NONE a_LZW a_ZLIB a_DEFLATE a_CCITT_T6 a_CCITT_RLE a_CCITT_T4 a_PACKBITS a_OLD_JPEG a_JPEG h0 n0 v U'.heap L ∧ FrameEnd U o U' L ({ frames := 0, cells := 0, slots := 0, locals := 0 } : Room).cells ({ frames := 0, cells := 0, slots := 0, locals := 0 } : Room).slots) := by
 refine MetFree.of_bodySF (plainFor_of_name pn1) hisR ?_
 intro p e s m args below meth c s₁ Bd hml0 hP hK
 obtain ⟨rfl, hZ, hh⟩ := hP
 have hx := Bd.exec
 have hby := Bd.bytes
 have hml : c.maxLocals = 1 := hml0
 have hown : s.vm.findClass "dev/ambrotype/imageio/TiffCompression" = some m.cls := findClass_of_methodNamed Bd.named
 have hnm := (name_of_methodNamed Bd.named Bd.method).1
 have X0 : Stand p l e ({ frames := 0, cells := 0, slots := 0, locals := 0 } : Room) s m #[(.ref a_JPEG)] below meth c s₁ [] 0 0 := Stand.of_body Bd
 have e0 : s₁.heap = h0 := by rw [← hh, Bd.state]; rfl
 have N0 := Fr.nil n0
 let S0 : State → Prop := fun t => Steps p.tables e below (s₁.setTop (entryFrame m #[(.ref a_JPEG)] 1)) t
 have p0 : ∀ t, St p e below s₁ (mkF m 0 #[.val (.ref a_JPEG)] []) t → S0 t := fun t k => castTop (ef1 m a_JPEG) k
 have HE' := HE
 obtain ⟨Sa_NONE, Ea_NONE, Sa_LZW, Ea_LZW, Fa_NONE_ordinal, Fa_LZW_ordinal, Sa_ZLIB, Ea_ZLIB, Fa_ZLIB_ordinal, Sa_DEFLATE, Ea_DEFLATE, Fa_DEFLATE_ordinal, Sa_CCITT_T6, Ea_CCITT_T6, Fa_CCITT_T6_ordinal, Sa_CCITT_RLE, Ea_CCITT_RLE, Fa_CCITT_RLE_ordinal, Sa_CCITT_T4, Ea_CCITT_T4, Fa_CCITT_T4_ordinal, Sa_PACKBITS, Ea_PACKBITS, Fa_PACKBITS_ordinal, Sa_OLD_JPEG, Ea_OLD_JPEG, Fa_OLD_JPEG_ordinal, Sa_JPEG, Ea_JPEG, Fa_JPEG_ordinal⟩ := HE
 have p1 : ∀ t, St p e below s₁ (mkF m 1 #[.val (.ref a_JPEG)] [(.ref a_JPEG)]) t → S0 t := fun t k => p0 t (by
   show St p e below s₁ (mkF m 0 #[.val (.ref a_JPEG)] []) t
   refine XS.aloadN X0.here hx rfl (hb hby d1_0) rfl rfl ?_
   exact k)
 obtain ⟨T2, X2, e2, st2⟩ := getS2 X0 hx hZ hown (host := "") (Or.inl (ww hw 9 rfl)) Via.refl e0 (Sa_LZW.ext O0.2) (g := (mkF m 1 #[.val (.ref a_JPEG)] [(.ref a_JPEG)])) rfl (hb hby d1_1)
 have p3 : ∀ t, St p e below T2 (mkF m 4 #[.val (.ref a_JPEG)] [(.ref a_LZW), (.ref a_JPEG)]) t → S0 t := fun t k => p1 t (st2 t k)
 have p4 : ∀ t, St p e below T2 (mkF m 8 #[.val (.ref a_JPEG)] [(.ref a_JPEG)]) t → S0 t := fun t k => p3 t (by
   show St p e below T2 (mkF m 4 #[.val (.ref a_JPEG)] [(.ref a_LZW), (.ref a_JPEG)]) t
   refine Jvm.RoadKit.acmp (g := (mkF m 4 #[.val (.ref a_JPEG)] [(.ref a_LZW), (.ref a_JPEG)])) X2 hx rfl rfl rfl (pc0 := 4) (pc' := 7) (same := false) rfl (hb hby d1_4) rfl (decide_eq_false fun q => (Fld.ne Fa_JPEG_ordinal Fa_LZW_ordinal (fun q => absurd (Value.int.inj q) (by decide))) (Value.ref.inj q)) (by decide) (by decide) ?_
   show St p e below T2 (mkF m 7 #[.val (.ref a_JPEG)] []) t
   refine XS.aloadN X2.here hx rfl (hb hby d1_7) rfl rfl ?_
   exact k)
 obtain ⟨T5, X5, e5, st5⟩ := getS2 X2 hx hZ hown (host := "") (Or.inl (ww hw 11 rfl)) Via.refl e2 (Sa_ZLIB.ext O0.2) (g := (mkF m 8 #[.val (.ref a_JPEG)] [(.ref a_JPEG)])) rfl (hb hby d1_8)
 have p6 : ∀ t, St p e below T5 (mkF m 11 #[.val (.ref a_JPEG)] [(.ref a_ZLIB), (.ref a_JPEG)]) t → S0 t := fun t k => p4 t (st5 t k)
 have p7 : ∀ t, St p e below T5 (mkF m 15 #[.val (.ref a_JPEG)] [(.ref a_JPEG)]) t → S0 t := fun t k => p6 t (by
   show St p e below T5 (mkF m 11 #[.val (.ref a_JPEG)] [(.ref a_ZLIB), (.ref a_JPEG)]) t
   refine Jvm.RoadKit.acmp (g := (mkF m 11 #[.val (.ref a_JPEG)] [(.ref a_ZLIB), (.ref a_JPEG)])) X5 hx rfl rfl rfl (pc0 := 11) (pc' := 14) (same := false) rfl (hb hby d1_11) rfl (decide_eq_false fun q => (Fld.ne Fa_JPEG_ordinal Fa_ZLIB_ordinal (fun q => absurd (Value.int.inj q) (by decide))) (Value.ref.inj q)) (by decide) (by decide) ?_
   show St p e below T5 (mkF m 14 #[.val (.ref a_JPEG)] []) t
   refine XS.aloadN X5.here hx rfl (hb hby d1_14) rfl rfl ?_
   exact k)
 obtain ⟨T8, X8, e8, st8⟩ := getS2 X5 hx hZ hown (host := "") (Or.inl (ww hw 13 rfl)) Via.refl e5 (Sa_DEFLATE.ext O0.2) (g := (mkF m 15 #[.val (.ref a_JPEG)] [(.ref a_JPEG)])) rfl (hb hby d1_15)
 have p9 : ∀ t, St p e below T8 (mkF m 18 #[.val (.ref a_JPEG)] [(.ref a_DEFLATE), (.ref a_JPEG)]) t → S0 t := fun t k => p7 t (st8 t k)
 have p10 : ∀ t, St p e below T8 (mkF m 26 #[.val (.ref a_JPEG)] [(.int (0 : Int32))]) t → S0 t := fun t k => p9 t (by
   show St p e below T8 (mkF m 18 #[.val (.ref a_JPEG)] [(.ref a_DEFLATE), (.ref a_JPEG)]) t
   refine Jvm.RoadKit.acmp (g := (mkF m 18 #[.val (.ref a_JPEG)] [(.ref a_DEFLATE), (.ref a_JPEG)])) X8 hx rfl rfl rfl (pc0 := 18) (pc' := 25) (same := false) rfl (hb hby d1_18) rfl (decide_eq_false fun q => (Fld.ne Fa_JPEG_ordinal Fa_DEFLATE_ordinal (fun q => absurd (Value.int.inj q) (by decide))) (Value.ref.inj q)) (by decide) (by decide) ?_
   show St p e below T8 (mkF m 25 #[.val (.ref a_JPEG)] []) t
   refine XT.iconstV X8.here hx rfl (0 : Int32) (hb hby d1_25) (by decide) ?_
   exact k)
 obtain ⟨fs, hr, hrun, hended, hW, hsame⟩ := X8.leave (v := some (.int (0 : Int32))) (fun h => by rw [Bd.returns] at h; cases h)
 refine ⟨_, _, p10 _ ?_, hrun, hended, _, _, rfl, ?_, ⟨_, rfl⟩, hW, hsame.mono (by decide) (by decide)⟩
 · exact retOut X8 hx Bd.returns rfl (Or.inl ⟨rfl, by simp, _, rfl⟩) (hb hby d1_26) hr
 · show Q1_8 Z a_NONE a_LZW a_ZLIB a_DEFLATE a_CCITT_T6 a_CCITT_RLE a_CCITT_T4 a_PACKBITS a_OLD_JPEG a_JPEG h0 n0 _ T8.heap _
   exact ⟨N0, e8, rfl⟩
def Q1_9 (Z : State) (a_NONE : Addr) (a_LZW : Addr) (a_ZLIB : Addr) (a_DEFLATE : Addr) (a_CCITT_T6 : Addr) (a_CCITT_RLE : Addr) (a_CCITT_T4 : Addr) (a_PACKBITS : Addr) (a_OLD_JPEG : Addr) (a_JPEG : Addr) (h0 : Heap) (n0 : Nat) (v : Option Value) (h : Heap) (L : List Loc) : Prop := Fr n0 L ∧ h = h0 ∧ ((v = some (.int (1 : Int32))))
set_option maxRecDepth 65536 in
set_option maxHeartbeats 40000000 in
theorem rm1_9 (l : Launch) (Z : State) (a0 : Array Value) (hw : ∀ d ∈ tables_1, d.before a0 Z = true) (ws : List Jvm.Cond) (a_NONE : Addr) (a_LZW : Addr) (a_ZLIB : Addr) (a_DEFLATE : Addr) (a_CCITT_T6 : Addr) (a_CCITT_RLE : Addr) (a_CCITT_T4 : Addr) (a_PACKBITS : Addr) (a_OLD_JPEG : Addr) (a_JPEG : Addr) (h0 : Heap) (n0 : Nat) (O0 : Old Z n0 h0) (HE : Env1 Z a_NONE a_LZW a_ZLIB a_DEFLATE a_CCITT_T6 a_CCITT_RLE a_CCITT_T4 a_PACKBITS a_OLD_JPEG a_JPEG)  :
    MetFree l M0 (head1 (Jvm.Cond.code M0 prog_68_method_9_code 1 (some .boolean) :: ws) ({ frames := 0, cells := 0, slots := 0, locals := 0 } : Room)) (fun a U => a = #[(.ref a_ZLIB)] ∧ Z.Warmed39 U.vm ∧ U.heap = h0) (fun _ _ _ _ _ => True) (fun _ U o U' => ∃ v L, o = .returned v ∧ Q1_9 Z a_NONE a_LZW a_ZLIB a_DEFLATE a_CCITT_T6 a_CCITT_RLE a_CCITT_T4 a_PACKBITS a_OLD_JPEG a_JPEG h0 n0 v U'.heap L ∧ FrameEnd U o U' L ({ frames := 0, cells := 0, slots := 0, locals := 0 } : Room).cells ({ frames := 0, cells := 0, slots := 0, locals := 0 } : Room).slots) := by
 refine MetFree.of_bodySF (plainFor_of_name pn1) hisR ?_
 intro p e s m args below meth c s₁ Bd hml0 hP hK
 obtain ⟨rfl, hZ, hh⟩ := hP
 have hx := Bd.exec
 have hby := Bd.bytes
 have hml : c.maxLocals = 1 := hml0
 have hown : s.vm.findClass "dev/ambrotype/imageio/TiffCompression" = some m.cls := findClass_of_methodNamed Bd.named
 have hnm := (name_of_methodNamed Bd.named Bd.method).1
 have X0 : Stand p l e ({ frames := 0, cells := 0, slots := 0, locals := 0 } : Room) s m #[(.ref a_ZLIB)] below meth c s₁ [] 0 0 := Stand.of_body Bd
 have e0 : s₁.heap = h0 := by rw [← hh, Bd.state]; rfl
 have N0 := Fr.nil n0
 let S0 : State → Prop := fun t => Steps p.tables e below (s₁.setTop (entryFrame m #[(.ref a_ZLIB)] 1)) t
 have p0 : ∀ t, St p e below s₁ (mkF m 0 #[.val (.ref a_ZLIB)] []) t → S0 t := fun t k => castTop (ef1 m a_ZLIB) k
 have HE' := HE
 obtain ⟨Sa_NONE, Ea_NONE, Sa_LZW, Ea_LZW, Fa_NONE_ordinal, Fa_LZW_ordinal, Sa_ZLIB, Ea_ZLIB, Fa_ZLIB_ordinal, Sa_DEFLATE, Ea_DEFLATE, Fa_DEFLATE_ordinal, Sa_CCITT_T6, Ea_CCITT_T6, Fa_CCITT_T6_ordinal, Sa_CCITT_RLE, Ea_CCITT_RLE, Fa_CCITT_RLE_ordinal, Sa_CCITT_T4, Ea_CCITT_T4, Fa_CCITT_T4_ordinal, Sa_PACKBITS, Ea_PACKBITS, Fa_PACKBITS_ordinal, Sa_OLD_JPEG, Ea_OLD_JPEG, Fa_OLD_JPEG_ordinal, Sa_JPEG, Ea_JPEG, Fa_JPEG_ordinal⟩ := HE
 have p1 : ∀ t, St p e below s₁ (mkF m 1 #[.val (.ref a_ZLIB)] [(.ref a_ZLIB)]) t → S0 t := fun t k => p0 t (by
   show St p e below s₁ (mkF m 0 #[.val (.ref a_ZLIB)] []) t
   refine XS.aloadN X0.here hx rfl (hb hby d1_0) rfl rfl ?_
   exact k)
 obtain ⟨T2, X2, e2, st2⟩ := getS2 X0 hx hZ hown (host := "") (Or.inl (ww hw 9 rfl)) Via.refl e0 (Sa_LZW.ext O0.2) (g := (mkF m 1 #[.val (.ref a_ZLIB)] [(.ref a_ZLIB)])) rfl (hb hby d1_1)
 have p3 : ∀ t, St p e below T2 (mkF m 4 #[.val (.ref a_ZLIB)] [(.ref a_LZW), (.ref a_ZLIB)]) t → S0 t := fun t k => p1 t (st2 t k)
 have p4 : ∀ t, St p e below T2 (mkF m 8 #[.val (.ref a_ZLIB)] [(.ref a_ZLIB)]) t → S0 t := fun t k => p3 t (by
   show St p e below T2 (mkF m 4 #[.val (.ref a_ZLIB)] [(.ref a_LZW), (.ref a_ZLIB)]) t
   refine Jvm.RoadKit.acmp (g := (mkF m 4 #[.val (.ref a_ZLIB)] [(.ref a_LZW), (.ref a_ZLIB)])) X2 hx rfl rfl rfl (pc0 := 4) (pc' := 7) (same := false) rfl (hb hby d1_4) rfl (decide_eq_false fun q => (Fld.ne Fa_ZLIB_ordinal Fa_LZW_ordinal (fun q => absurd (Value.int.inj q) (by decide))) (Value.ref.inj q)) (by decide) (by decide) ?_
   show St p e below T2 (mkF m 7 #[.val (.ref a_ZLIB)] []) t
   refine XS.aloadN X2.here hx rfl (hb hby d1_7) rfl rfl ?_
   exact k)
 obtain ⟨T5, X5, e5, st5⟩ := getS2 X2 hx hZ hown (host := "") (Or.inl (ww hw 11 rfl)) Via.refl e2 (Sa_ZLIB.ext O0.2) (g := (mkF m 8 #[.val (.ref a_ZLIB)] [(.ref a_ZLIB)])) rfl (hb hby d1_8)
 have p6 : ∀ t, St p e below T5 (mkF m 11 #[.val (.ref a_ZLIB)] [(.ref a_ZLIB), (.ref a_ZLIB)]) t → S0 t := fun t k => p4 t (st5 t k)
 have p7 : ∀ t, St p e below T5 (mkF m 26 #[.val (.ref a_ZLIB)] [(.int (1 : Int32))]) t → S0 t := fun t k => p6 t (by
   show St p e below T5 (mkF m 11 #[.val (.ref a_ZLIB)] [(.ref a_ZLIB), (.ref a_ZLIB)]) t
   refine Jvm.RoadKit.acmp (g := (mkF m 11 #[.val (.ref a_ZLIB)] [(.ref a_ZLIB), (.ref a_ZLIB)])) X5 hx rfl rfl rfl (pc0 := 11) (pc' := 21) (same := true) rfl (hb hby d1_11) rfl (decide_eq_true rfl) (by decide) (by decide) ?_
   show St p e below T5 (mkF m 21 #[.val (.ref a_ZLIB)] []) t
   refine XT.iconstV X5.here hx rfl (1 : Int32) (hb hby d1_21) (by decide) ?_
   show St p e below T5 (mkF m 22 #[.val (.ref a_ZLIB)] [(.int (1 : Int32))]) t
   refine XS.goto X5.here hx rfl (pc0 := 22) (pc' := 26) rfl (hb hby d1_22) (by decide) (by decide) ?_
   exact k)
 obtain ⟨fs, hr, hrun, hended, hW, hsame⟩ := X5.leave (v := some (.int (1 : Int32))) (fun h => by rw [Bd.returns] at h; cases h)
 refine ⟨_, _, p7 _ ?_, hrun, hended, _, _, rfl, ?_, ⟨_, rfl⟩, hW, hsame.mono (by decide) (by decide)⟩
 · exact retOut X5 hx Bd.returns rfl (Or.inl ⟨rfl, by simp, _, rfl⟩) (hb hby d1_26) hr
 · show Q1_9 Z a_NONE a_LZW a_ZLIB a_DEFLATE a_CCITT_T6 a_CCITT_RLE a_CCITT_T4 a_PACKBITS a_OLD_JPEG a_JPEG h0 n0 _ T5.heap _
   exact ⟨N0, e5, rfl⟩
def Q3_11 (Z : State) (a_NONE : Addr) (a_LZW : Addr) (a_ZLIB : Addr) (a_DEFLATE : Addr) (a_CCITT_T6 : Addr) (a_CCITT_RLE : Addr) (a_CCITT_T4 : Addr) (a_PACKBITS : Addr) (a_OLD_JPEG : Addr) (a_JPEG : Addr) (h0 : Heap) (n0 : Nat) (v : Option Value) (h : Heap) (L : List Loc) : Prop := Fr n0 L ∧ h = h0 ∧ ((v = some (.int (7 : Int32))))
set_option maxRecDepth 65536 in
set_option maxHeartbeats 40000000 in
theorem rm3_11 (l : Launch) (Z : State) (a0 : Array Value) (hw : ∀ d ∈ tables_1, d.before a0 Z = true) (ws : List Jvm.Cond) (a_NONE : Addr) (a_LZW : Addr) (a_ZLIB : Addr) (a_DEFLATE : Addr) (a_CCITT_T6 : Addr) (a_CCITT_RLE : Addr) (a_CCITT_T4 : Addr) (a_PACKBITS : Addr) (a_OLD_JPEG : Addr) (a_JPEG : Addr) (h0 : Heap) (n0 : Nat) (O0 : Old Z n0 h0) (HE : Env1 Z a_NONE a_LZW a_ZLIB a_DEFLATE a_CCITT_T6 a_CCITT_RLE a_CCITT_T4 a_PACKBITS a_OLD_JPEG a_JPEG)  :
    MetFree l M1 (head1 (Jvm.Cond.code M1 jdk_37_method_2_code 1 (some .int) :: ws) ({ frames := 0, cells := 0, slots := 0, locals := 0 } : Room)) (fun a U => a = #[(.ref a_ZLIB)] ∧ Z.Warmed39 U.vm ∧ U.heap = h0) (fun _ _ _ _ _ => True) (fun _ U o U' => ∃ v L, o = .returned v ∧ Q3_11 Z a_NONE a_LZW a_ZLIB a_DEFLATE a_CCITT_T6 a_CCITT_RLE a_CCITT_T4 a_PACKBITS a_OLD_JPEG a_JPEG h0 n0 v U'.heap L ∧ FrameEnd U o U' L ({ frames := 0, cells := 0, slots := 0, locals := 0 } : Room).cells ({ frames := 0, cells := 0, slots := 0, locals := 0 } : Room).slots) := by
 refine MetFree.of_bodySF (plainFor_of_name pn2) hisR ?_
 intro p e s m args below meth c s₁ Bd hml0 hP hK
 obtain ⟨rfl, hZ, hh⟩ := hP
 have hx := Bd.exec
 have hby := Bd.bytes
 have hml : c.maxLocals = 1 := hml0
 have hown : s.vm.findClass "java/lang/Enum" = some m.cls := findClass_of_methodNamed Bd.named
 have hnm := (name_of_methodNamed Bd.named Bd.method).1
 have X0 : Stand p l e ({ frames := 0, cells := 0, slots := 0, locals := 0 } : Room) s m #[(.ref a_ZLIB)] below meth c s₁ [] 0 0 := Stand.of_body Bd
 have e0 : s₁.heap = h0 := by rw [← hh, Bd.state]; rfl
 have N0 := Fr.nil n0
 let S0 : State → Prop := fun t => Steps p.tables e below (s₁.setTop (entryFrame m #[(.ref a_ZLIB)] 1)) t
 have p0 : ∀ t, St p e below s₁ (mkF m 0 #[.val (.ref a_ZLIB)] []) t → S0 t := fun t k => castTop (ef3 m a_ZLIB) k
 have HE' := HE
 obtain ⟨Sa_NONE, Ea_NONE, Sa_LZW, Ea_LZW, Fa_NONE_ordinal, Fa_LZW_ordinal, Sa_ZLIB, Ea_ZLIB, Fa_ZLIB_ordinal, Sa_DEFLATE, Ea_DEFLATE, Fa_DEFLATE_ordinal, Sa_CCITT_T6, Ea_CCITT_T6, Fa_CCITT_T6_ordinal, Sa_CCITT_RLE, Ea_CCITT_RLE, Fa_CCITT_RLE_ordinal, Sa_CCITT_T4, Ea_CCITT_T4, Fa_CCITT_T4_ordinal, Sa_PACKBITS, Ea_PACKBITS, Fa_PACKBITS_ordinal, Sa_OLD_JPEG, Ea_OLD_JPEG, Fa_OLD_JPEG_ordinal, Sa_JPEG, Ea_JPEG, Fa_JPEG_ordinal⟩ := HE
 have p1 : ∀ t, St p e below s₁ (mkF m 1 #[.val (.ref a_ZLIB)] [(.ref a_ZLIB)]) t → S0 t := fun t k => p0 t (by
   show St p e below s₁ (mkF m 0 #[.val (.ref a_ZLIB)] []) t
   refine XS.aloadN X0.here hx rfl (hb hby d3_0) rfl rfl ?_
   exact k)
 obtain ⟨T2, X2, e2, st2⟩ := getF X0 hx hZ hown (host := "") (Or.inl (ww hw 32 rfl)) Via.refl e0 (Fa_ZLIB_ordinal.ext O0.2) (g := (mkF m 1 #[.val (.ref a_ZLIB)] [(.ref a_ZLIB)])) rfl rfl (hb hby d3_1)
 have p3 : ∀ t, St p e below T2 (mkF m 4 #[.val (.ref a_ZLIB)] [(.int (7 : Int32))]) t → S0 t := fun t k => p1 t (st2 t k)
 obtain ⟨fs, hr, hrun, hended, hW, hsame⟩ := X2.leave (v := some (.int (7 : Int32))) (fun h => by rw [Bd.returns] at h; cases h)
 refine ⟨_, _, p3 _ ?_, hrun, hended, _, _, rfl, ?_, ⟨_, rfl⟩, hW, hsame.mono (by decide) (by decide)⟩
 · exact retOut X2 hx Bd.returns rfl (Or.inl ⟨rfl, by simp, _, rfl⟩) (hb hby d3_4) hr
 · show Q3_11 Z a_NONE a_LZW a_ZLIB a_DEFLATE a_CCITT_T6 a_CCITT_RLE a_CCITT_T4 a_PACKBITS a_OLD_JPEG a_JPEG h0 n0 _ T2.heap _
   exact ⟨N0, e2, rfl⟩
def Q2_10 (Z : State) (a_NONE : Addr) (a_LZW : Addr) (a_ZLIB : Addr) (a_DEFLATE : Addr) (a_CCITT_T6 : Addr) (a_CCITT_RLE : Addr) (a_CCITT_T4 : Addr) (a_PACKBITS : Addr) (a_OLD_JPEG : Addr) (a_JPEG : Addr) (h0 : Heap) (n0 : Nat) (v : Option Value) (h : Heap) (L : List Loc) : Prop := Fr n0 L ∧ h = h0 ∧ ((v = some (.int (1 : Int32))))
set_option maxRecDepth 65536 in
set_option maxHeartbeats 40000000 in
theorem rm2_10 (l : Launch) (Z : State) (a0 : Array Value) (hw : ∀ d ∈ tables_1, d.before a0 Z = true) (ws : List Jvm.Cond) (a_NONE : Addr) (a_LZW : Addr) (a_ZLIB : Addr) (a_DEFLATE : Addr) (a_CCITT_T6 : Addr) (a_CCITT_RLE : Addr) (a_CCITT_T4 : Addr) (a_PACKBITS : Addr) (a_OLD_JPEG : Addr) (a_JPEG : Addr) (h0 : Heap) (n0 : Nat) (O0 : Old Z n0 h0) (HE : Env1 Z a_NONE a_LZW a_ZLIB a_DEFLATE a_CCITT_T6 a_CCITT_RLE a_CCITT_T4 a_PACKBITS a_OLD_JPEG a_JPEG)  :
    MetFree l M3 (head1 (Jvm.Cond.code M3 prog_68_method_7_code 1 (some .boolean) :: ws) ({ frames := 1, cells := 0, slots := 0, locals := 12 } : Room)) (fun a U => a = #[(.ref a_ZLIB)] ∧ Z.Warmed39 U.vm ∧ U.heap = h0) (fun _ _ _ _ _ => True) (fun _ U o U' => ∃ v L, o = .returned v ∧ Q2_10 Z a_NONE a_LZW a_ZLIB a_DEFLATE a_CCITT_T6 a_CCITT_RLE a_CCITT_T4 a_PACKBITS a_OLD_JPEG a_JPEG h0 n0 v U'.heap L ∧ FrameEnd U o U' L ({ frames := 1, cells := 0, slots := 0, locals := 12 } : Room).cells ({ frames := 1, cells := 0, slots := 0, locals := 12 } : Room).slots) := by
 refine MetFree.of_bodySF (plainFor_of_name pn1) hisR ?_
 intro p e s m args below meth c s₁ Bd hml0 hP hK
 obtain ⟨rfl, hZ, hh⟩ := hP
 have hx := Bd.exec
 have hby := Bd.bytes
 have hml : c.maxLocals = 1 := hml0
 have hown : s.vm.findClass "dev/ambrotype/imageio/TiffCompression" = some m.cls := findClass_of_methodNamed Bd.named
 have hnm := (name_of_methodNamed Bd.named Bd.method).1
 have X0 : Stand p l e ({ frames := 1, cells := 0, slots := 0, locals := 12 } : Room) s m #[(.ref a_ZLIB)] below meth c s₁ [] 0 0 := Stand.of_body Bd
 have e0 : s₁.heap = h0 := by rw [← hh, Bd.state]; rfl
 have N0 := Fr.nil n0
 let S0 : State → Prop := fun t => Steps p.tables e below (s₁.setTop (entryFrame m #[(.ref a_ZLIB)] 1)) t
 have p0 : ∀ t, St p e below s₁ (mkF m 0 #[.val (.ref a_ZLIB)] []) t → S0 t := fun t k => castTop (ef2 m a_ZLIB) k
 have HE' := HE
 obtain ⟨Sa_NONE, Ea_NONE, Sa_LZW, Ea_LZW, Fa_NONE_ordinal, Fa_LZW_ordinal, Sa_ZLIB, Ea_ZLIB, Fa_ZLIB_ordinal, Sa_DEFLATE, Ea_DEFLATE, Fa_DEFLATE_ordinal, Sa_CCITT_T6, Ea_CCITT_T6, Fa_CCITT_T6_ordinal, Sa_CCITT_RLE, Ea_CCITT_RLE, Fa_CCITT_RLE_ordinal, Sa_CCITT_T4, Ea_CCITT_T4, Fa_CCITT_T4_ordinal, Sa_PACKBITS, Ea_PACKBITS, Fa_PACKBITS_ordinal, Sa_OLD_JPEG, Ea_OLD_JPEG, Fa_OLD_JPEG_ordinal, Sa_JPEG, Ea_JPEG, Fa_JPEG_ordinal⟩ := HE
 have p1 : ∀ t, St p e below s₁ (mkF m 1 #[.val (.ref a_ZLIB)] [(.ref a_ZLIB)]) t → S0 t := fun t k => p0 t (by
   show St p e below s₁ (mkF m 0 #[.val (.ref a_ZLIB)] []) t
   refine XS.aloadN X0.here hx rfl (hb hby d2_0) rfl rfl ?_
   exact k)
 obtain ⟨cqc2, kqc2, qc2a, qc2b, qc2c⟩ := isOf hZ e0 (Ea_ZLIB.ext O0.2)
 obtain ⟨_, _, ⟨Tc2, Lc2, kc2, nc2⟩, -, Xc2, ⟨Lcc2, hQc2, lc2, yc2, zc2⟩, stc2⟩ := X0.virtualBackUp hx (owner := "java/lang/Enum") (x := M2) (y := M1) hown (mvT hZ (ww hw 25 rfl)) (mvT hZ (ww hw 26 rfl)) (mvT hZ (ww hw 27 rfl)) (by decide) (mvT hZ (ww hw 29 rfl)) (mvT hZ (ww hw 28 rfl)) (backOf (W := 0) (rm3_11 l Z a0 hw [] a_NONE a_LZW a_ZLIB a_DEFLATE a_CCITT_T6 a_CCITT_RLE a_CCITT_T4 a_PACKBITS a_OLD_JPEG a_JPEG h0 n0 O0 HE' ) hZ (ww hw 31 rfl) (ww hw 30 rfl) (by decide) (by decide)) qc2a qc2c (g := (mkF m 1 #[.val (.ref a_ZLIB)] [(.ref a_ZLIB)])) rfl (by rw [hml]; rfl) (Steps.refl _) (argsL := []) (rest := []) (lenOf pd1 rfl) rfl (by show 2 * 0 + _ ≤ _; exact Nat.le_of_eq rfl) (hb hby d2_1) (fun _ _ => ⟨rfl, e0, (by decide : 0 + 0 ≤ _), (by decide : 0 + 0 ≤ _)⟩)
 dsimp only [Pt.U, Pt.locs, Pt.cells, Pt.slots] at Xc2 lc2 yc2 zc2 stc2 hQc2
 subst lc2 yc2 zc2
 obtain ⟨Nqc2, ec2, hAc2⟩ := hQc2
 have Nc2 := Fr.app N0 Nqc2
 obtain rfl := hAc2
 have p3 : ∀ t, St p e below Tc2 (mkF m 4 #[.val (.ref a_ZLIB)] [(.int (7 : Int32))]) t → S0 t := fun t k => p1 t (stc2.trans k)
 have p4 : ∀ t, St p e below Tc2 (mkF m 65 #[.val (.ref a_ZLIB)] [(.int (1 : Int32))]) t → S0 t := fun t k => p3 t (by
   show St p e below Tc2 (mkF m 4 #[.val (.ref a_ZLIB)] [(.int (7 : Int32))]) t
   refine XS.tswIn Xc2.here hx rfl (pc0 := 4) (pc' := 60) rfl (hb hby d2_4) rfl (by decide) (o := 56) (by decide) (by decide) (by decide) ?_
   show St p e below Tc2 (mkF m 60 #[.val (.ref a_ZLIB)] []) t
   refine XT.iconstV Xc2.here hx rfl (1 : Int32) (hb hby d2_60) (by decide) ?_
   show St p e below Tc2 (mkF m 61 #[.val (.ref a_ZLIB)] [(.int (1 : Int32))]) t
   refine XS.goto Xc2.here hx rfl (pc0 := 61) (pc' := 65) rfl (hb hby d2_61) (by decide) (by decide) ?_
   exact k)
 obtain ⟨fs, hr, hrun, hended, hW, hsame⟩ := Xc2.leave (v := some (.int (1 : Int32))) (fun h => by rw [Bd.returns] at h; cases h)
 refine ⟨_, _, p4 _ ?_, hrun, hended, _, _, rfl, ?_, ⟨_, rfl⟩, hW, hsame.mono (by decide) (by decide)⟩
 · exact retOut Xc2 hx Bd.returns rfl (Or.inl ⟨rfl, by simp, _, rfl⟩) (hb hby d2_65) hr
 · show Q2_10 Z a_NONE a_LZW a_ZLIB a_DEFLATE a_CCITT_T6 a_CCITT_RLE a_CCITT_T4 a_PACKBITS a_OLD_JPEG a_JPEG h0 n0 _ Tc2.heap _
   exact ⟨Nc2, ec2, rfl⟩
def Q1_12 (Z : State) (a_NONE : Addr) (a_LZW : Addr) (a_ZLIB : Addr) (a_DEFLATE : Addr) (a_CCITT_T6 : Addr) (a_CCITT_RLE : Addr) (a_CCITT_T4 : Addr) (a_PACKBITS : Addr) (a_OLD_JPEG : Addr) (a_JPEG : Addr) (h0 : Heap) (n0 : Nat) (v : Option Value) (h : Heap) (L : List Loc) : Prop := Fr n0 L ∧ h = h0 ∧ ((v = some (.int (0 : Int32))))
set_option maxRecDepth 65536 in
set_option maxHeartbeats 40000000 in
theorem rm1_12 (l : Launch) (Z : State) (a0 : Array Value) (hw : ∀ d ∈ tables_1, d.before a0 Z = true) (ws : List Jvm.Cond) (a_NONE : Addr) (a_LZW : Addr) (a_ZLIB : Addr) (a_DEFLATE : Addr) (a_CCITT_T6 : Addr) (a_CCITT_RLE : Addr) (a_CCITT_T4 : Addr) (a_PACKBITS : Addr) (a_OLD_JPEG : Addr) (a_JPEG : Addr) (h0 : Heap) (n0 : Nat) (O0 : Old Z n0 h0) (HE : Env1 Z a_NONE a_LZW a_ZLIB a_DEFLATE a_CCITT_T6 a_CCITT_RLE a_CCITT_T4 a_PACKBITS a_OLD_JPEG a_JPEG)  :
    MetFree l M0 (head1 (Jvm.Cond.code M0 prog_68_method_9_code 1 (some .boolean) :: ws) ({ frames := 0, cells := 0, slots := 0, locals := 0 } : Room)) (fun a U => a = #[(.ref a_PACKBITS)] ∧ Z.Warmed39 U.vm ∧ U.heap = h0) (fun _ _ _ _ _ => True) (fun _ U o U' => ∃ v L, o = .returned v ∧ Q1_12 Z a_NONE a_LZW a_ZLIB a_DEFLATE a_CCITT_T6 a_CCITT_RLE a_CCITT_T4 a_PACKBITS a_OLD_JPEG a_JPEG h0 n0 v U'.heap L ∧ FrameEnd U o U' L ({ frames := 0, cells := 0, slots := 0, locals := 0 } : Room).cells ({ frames := 0, cells := 0, slots := 0, locals := 0 } : Room).slots) := by
 refine MetFree.of_bodySF (plainFor_of_name pn1) hisR ?_
 intro p e s m args below meth c s₁ Bd hml0 hP hK
 obtain ⟨rfl, hZ, hh⟩ := hP
 have hx := Bd.exec
 have hby := Bd.bytes
 have hml : c.maxLocals = 1 := hml0
 have hown : s.vm.findClass "dev/ambrotype/imageio/TiffCompression" = some m.cls := findClass_of_methodNamed Bd.named
 have hnm := (name_of_methodNamed Bd.named Bd.method).1
 have X0 : Stand p l e ({ frames := 0, cells := 0, slots := 0, locals := 0 } : Room) s m #[(.ref a_PACKBITS)] below meth c s₁ [] 0 0 := Stand.of_body Bd
 have e0 : s₁.heap = h0 := by rw [← hh, Bd.state]; rfl
 have N0 := Fr.nil n0
 let S0 : State → Prop := fun t => Steps p.tables e below (s₁.setTop (entryFrame m #[(.ref a_PACKBITS)] 1)) t
 have p0 : ∀ t, St p e below s₁ (mkF m 0 #[.val (.ref a_PACKBITS)] []) t → S0 t := fun t k => castTop (ef1 m a_PACKBITS) k
 have HE' := HE
 obtain ⟨Sa_NONE, Ea_NONE, Sa_LZW, Ea_LZW, Fa_NONE_ordinal, Fa_LZW_ordinal, Sa_ZLIB, Ea_ZLIB, Fa_ZLIB_ordinal, Sa_DEFLATE, Ea_DEFLATE, Fa_DEFLATE_ordinal, Sa_CCITT_T6, Ea_CCITT_T6, Fa_CCITT_T6_ordinal, Sa_CCITT_RLE, Ea_CCITT_RLE, Fa_CCITT_RLE_ordinal, Sa_CCITT_T4, Ea_CCITT_T4, Fa_CCITT_T4_ordinal, Sa_PACKBITS, Ea_PACKBITS, Fa_PACKBITS_ordinal, Sa_OLD_JPEG, Ea_OLD_JPEG, Fa_OLD_JPEG_ordinal, Sa_JPEG, Ea_JPEG, Fa_JPEG_ordinal⟩ := HE
 have p1 : ∀ t, St p e below s₁ (mkF m 1 #[.val (.ref a_PACKBITS)] [(.ref a_PACKBITS)]) t → S0 t := fun t k => p0 t (by
   show St p e below s₁ (mkF m 0 #[.val (.ref a_PACKBITS)] []) t
   refine XS.aloadN X0.here hx rfl (hb hby d1_0) rfl rfl ?_
   exact k)
 obtain ⟨T2, X2, e2, st2⟩ := getS2 X0 hx hZ hown (host := "") (Or.inl (ww hw 9 rfl)) Via.refl e0 (Sa_LZW.ext O0.2) (g := (mkF m 1 #[.val (.ref a_PACKBITS)] [(.ref a_PACKBITS)])) rfl (hb hby d1_1)
 have p3 : ∀ t, St p e below T2 (mkF m 4 #[.val (.ref a_PACKBITS)] [(.ref a_LZW), (.ref a_PACKBITS)]) t → S0 t := fun t k => p1 t (st2 t k)
 have p4 : ∀ t, St p e below T2 (mkF m 8 #[.val (.ref a_PACKBITS)] [(.ref a_PACKBITS)]) t → S0 t := fun t k => p3 t (by
   show St p e below T2 (mkF m 4 #[.val (.ref a_PACKBITS)] [(.ref a_LZW), (.ref a_PACKBITS)]) t
   refine Jvm.RoadKit.acmp (g := (mkF m 4 #[.val (.ref a_PACKBITS)] [(.ref a_LZW), (.ref a_PACKBITS)])) X2 hx rfl rfl rfl (pc0 := 4) (pc' := 7) (same := false) rfl (hb hby d1_4) rfl (decide_eq_false fun q => (Fld.ne Fa_PACKBITS_ordinal Fa_LZW_ordinal (fun q => absurd (Value.int.inj q) (by decide))) (Value.ref.inj q)) (by decide) (by decide) ?_
   show St p e below T2 (mkF m 7 #[.val (.ref a_PACKBITS)] []) t
   refine XS.aloadN X2.here hx rfl (hb hby d1_7) rfl rfl ?_
   exact k)
 obtain ⟨T5, X5, e5, st5⟩ := getS2 X2 hx hZ hown (host := "") (Or.inl (ww hw 11 rfl)) Via.refl e2 (Sa_ZLIB.ext O0.2) (g := (mkF m 8 #[.val (.ref a_PACKBITS)] [(.ref a_PACKBITS)])) rfl (hb hby d1_8)
 have p6 : ∀ t, St p e below T5 (mkF m 11 #[.val (.ref a_PACKBITS)] [(.ref a_ZLIB), (.ref a_PACKBITS)]) t → S0 t := fun t k => p4 t (st5 t k)
 have p7 : ∀ t, St p e below T5 (mkF m 15 #[.val (.ref a_PACKBITS)] [(.ref a_PACKBITS)]) t → S0 t := fun t k => p6 t (by
   show St p e below T5 (mkF m 11 #[.val (.ref a_PACKBITS)] [(.ref a_ZLIB), (.ref a_PACKBITS)]) t
   refine Jvm.RoadKit.acmp (g := (mkF m 11 #[.val (.ref a_PACKBITS)] [(.ref a_ZLIB), (.ref a_PACKBITS)])) X5 hx rfl rfl rfl (pc0 := 11) (pc' := 14) (same := false) rfl (hb hby d1_11) rfl (decide_eq_false fun q => (Fld.ne Fa_PACKBITS_ordinal Fa_ZLIB_ordinal (fun q => absurd (Value.int.inj q) (by decide))) (Value.ref.inj q)) (by decide) (by decide) ?_
   show St p e below T5 (mkF m 14 #[.val (.ref a_PACKBITS)] []) t
   refine XS.aloadN X5.here hx rfl (hb hby d1_14) rfl rfl ?_
   exact k)
 obtain ⟨T8, X8, e8, st8⟩ := getS2 X5 hx hZ hown (host := "") (Or.inl (ww hw 13 rfl)) Via.refl e5 (Sa_DEFLATE.ext O0.2) (g := (mkF m 15 #[.val (.ref a_PACKBITS)] [(.ref a_PACKBITS)])) rfl (hb hby d1_15)
 have p9 : ∀ t, St p e below T8 (mkF m 18 #[.val (.ref a_PACKBITS)] [(.ref a_DEFLATE), (.ref a_PACKBITS)]) t → S0 t := fun t k => p7 t (st8 t k)
 have p10 : ∀ t, St p e below T8 (mkF m 26 #[.val (.ref a_PACKBITS)] [(.int (0 : Int32))]) t → S0 t := fun t k => p9 t (by
   show St p e below T8 (mkF m 18 #[.val (.ref a_PACKBITS)] [(.ref a_DEFLATE), (.ref a_PACKBITS)]) t
   refine Jvm.RoadKit.acmp (g := (mkF m 18 #[.val (.ref a_PACKBITS)] [(.ref a_DEFLATE), (.ref a_PACKBITS)])) X8 hx rfl rfl rfl (pc0 := 18) (pc' := 25) (same := false) rfl (hb hby d1_18) rfl (decide_eq_false fun q => (Fld.ne Fa_PACKBITS_ordinal Fa_DEFLATE_ordinal (fun q => absurd (Value.int.inj q) (by decide))) (Value.ref.inj q)) (by decide) (by decide) ?_
   show St p e below T8 (mkF m 25 #[.val (.ref a_PACKBITS)] []) t
   refine XT.iconstV X8.here hx rfl (0 : Int32) (hb hby d1_25) (by decide) ?_
   exact k)
 obtain ⟨fs, hr, hrun, hended, hW, hsame⟩ := X8.leave (v := some (.int (0 : Int32))) (fun h => by rw [Bd.returns] at h; cases h)
 refine ⟨_, _, p10 _ ?_, hrun, hended, _, _, rfl, ?_, ⟨_, rfl⟩, hW, hsame.mono (by decide) (by decide)⟩
 · exact retOut X8 hx Bd.returns rfl (Or.inl ⟨rfl, by simp, _, rfl⟩) (hb hby d1_26) hr
 · show Q1_12 Z a_NONE a_LZW a_ZLIB a_DEFLATE a_CCITT_T6 a_CCITT_RLE a_CCITT_T4 a_PACKBITS a_OLD_JPEG a_JPEG h0 n0 _ T8.heap _
   exact ⟨N0, e8, rfl⟩
def Q1_13 (Z : State) (a_NONE : Addr) (a_LZW : Addr) (a_ZLIB : Addr) (a_DEFLATE : Addr) (a_CCITT_T6 : Addr) (a_CCITT_RLE : Addr) (a_CCITT_T4 : Addr) (a_PACKBITS : Addr) (a_OLD_JPEG : Addr) (a_JPEG : Addr) (h0 : Heap) (n0 : Nat) (v : Option Value) (h : Heap) (L : List Loc) : Prop := Fr n0 L ∧ h = h0 ∧ ((v = some (.int (1 : Int32))))
set_option maxRecDepth 65536 in
set_option maxHeartbeats 40000000 in
theorem rm1_13 (l : Launch) (Z : State) (a0 : Array Value) (hw : ∀ d ∈ tables_1, d.before a0 Z = true) (ws : List Jvm.Cond) (a_NONE : Addr) (a_LZW : Addr) (a_ZLIB : Addr) (a_DEFLATE : Addr) (a_CCITT_T6 : Addr) (a_CCITT_RLE : Addr) (a_CCITT_T4 : Addr) (a_PACKBITS : Addr) (a_OLD_JPEG : Addr) (a_JPEG : Addr) (h0 : Heap) (n0 : Nat) (O0 : Old Z n0 h0) (HE : Env1 Z a_NONE a_LZW a_ZLIB a_DEFLATE a_CCITT_T6 a_CCITT_RLE a_CCITT_T4 a_PACKBITS a_OLD_JPEG a_JPEG)  :
    MetFree l M0 (head1 (Jvm.Cond.code M0 prog_68_method_9_code 1 (some .boolean) :: ws) ({ frames := 0, cells := 0, slots := 0, locals := 0 } : Room)) (fun a U => a = #[(.ref a_DEFLATE)] ∧ Z.Warmed39 U.vm ∧ U.heap = h0) (fun _ _ _ _ _ => True) (fun _ U o U' => ∃ v L, o = .returned v ∧ Q1_13 Z a_NONE a_LZW a_ZLIB a_DEFLATE a_CCITT_T6 a_CCITT_RLE a_CCITT_T4 a_PACKBITS a_OLD_JPEG a_JPEG h0 n0 v U'.heap L ∧ FrameEnd U o U' L ({ frames := 0, cells := 0, slots := 0, locals := 0 } : Room).cells ({ frames := 0, cells := 0, slots := 0, locals := 0 } : Room).slots) := by
 refine MetFree.of_bodySF (plainFor_of_name pn1) hisR ?_
 intro p e s m args below meth c s₁ Bd hml0 hP hK
 obtain ⟨rfl, hZ, hh⟩ := hP
 have hx := Bd.exec
 have hby := Bd.bytes
 have hml : c.maxLocals = 1 := hml0
 have hown : s.vm.findClass "dev/ambrotype/imageio/TiffCompression" = some m.cls := findClass_of_methodNamed Bd.named
 have hnm := (name_of_methodNamed Bd.named Bd.method).1
 have X0 : Stand p l e ({ frames := 0, cells := 0, slots := 0, locals := 0 } : Room) s m #[(.ref a_DEFLATE)] below meth c s₁ [] 0 0 := Stand.of_body Bd
 have e0 : s₁.heap = h0 := by rw [← hh, Bd.state]; rfl
 have N0 := Fr.nil n0
 let S0 : State → Prop := fun t => Steps p.tables e below (s₁.setTop (entryFrame m #[(.ref a_DEFLATE)] 1)) t
 have p0 : ∀ t, St p e below s₁ (mkF m 0 #[.val (.ref a_DEFLATE)] []) t → S0 t := fun t k => castTop (ef1 m a_DEFLATE) k
 have HE' := HE
 obtain ⟨Sa_NONE, Ea_NONE, Sa_LZW, Ea_LZW, Fa_NONE_ordinal, Fa_LZW_ordinal, Sa_ZLIB, Ea_ZLIB, Fa_ZLIB_ordinal, Sa_DEFLATE, Ea_DEFLATE, Fa_DEFLATE_ordinal, Sa_CCITT_T6, Ea_CCITT_T6, Fa_CCITT_T6_ordinal, Sa_CCITT_RLE, Ea_CCITT_RLE, Fa_CCITT_RLE_ordinal, Sa_CCITT_T4, Ea_CCITT_T4, Fa_CCITT_T4_ordinal, Sa_PACKBITS, Ea_PACKBITS, Fa_PACKBITS_ordinal, Sa_OLD_JPEG, Ea_OLD_JPEG, Fa_OLD_JPEG_ordinal, Sa_JPEG, Ea_JPEG, Fa_JPEG_ordinal⟩ := HE
 have p1 : ∀ t, St p e below s₁ (mkF m 1 #[.val (.ref a_DEFLATE)] [(.ref a_DEFLATE)]) t → S0 t := fun t k => p0 t (by
   show St p e below s₁ (mkF m 0 #[.val (.ref a_DEFLATE)] []) t
   refine XS.aloadN X0.here hx rfl (hb hby d1_0) rfl rfl ?_
   exact k)
 obtain ⟨T2, X2, e2, st2⟩ := getS2 X0 hx hZ hown (host := "") (Or.inl (ww hw 9 rfl)) Via.refl e0 (Sa_LZW.ext O0.2) (g := (mkF m 1 #[.val (.ref a_DEFLATE)] [(.ref a_DEFLATE)])) rfl (hb hby d1_1)
 have p3 : ∀ t, St p e below T2 (mkF m 4 #[.val (.ref a_DEFLATE)] [(.ref a_LZW), (.ref a_DEFLATE)]) t → S0 t := fun t k => p1 t (st2 t k)
 have p4 : ∀ t, St p e below T2 (mkF m 8 #[.val (.ref a_DEFLATE)] [(.ref a_DEFLATE)]) t → S0 t := fun t k => p3 t (by
   show St p e below T2 (mkF m 4 #[.val (.ref a_DEFLATE)] [(.ref a_LZW), (.ref a_DEFLATE)]) t
   refine Jvm.RoadKit.acmp (g := (mkF m 4 #[.val (.ref a_DEFLATE)] [(.ref a_LZW), (.ref a_DEFLATE)])) X2 hx rfl rfl rfl (pc0 := 4) (pc' := 7) (same := false) rfl (hb hby d1_4) rfl (decide_eq_false fun q => (Fld.ne Fa_DEFLATE_ordinal Fa_LZW_ordinal (fun q => absurd (Value.int.inj q) (by decide))) (Value.ref.inj q)) (by decide) (by decide) ?_
   show St p e below T2 (mkF m 7 #[.val (.ref a_DEFLATE)] []) t
   refine XS.aloadN X2.here hx rfl (hb hby d1_7) rfl rfl ?_
   exact k)
 obtain ⟨T5, X5, e5, st5⟩ := getS2 X2 hx hZ hown (host := "") (Or.inl (ww hw 11 rfl)) Via.refl e2 (Sa_ZLIB.ext O0.2) (g := (mkF m 8 #[.val (.ref a_DEFLATE)] [(.ref a_DEFLATE)])) rfl (hb hby d1_8)
 have p6 : ∀ t, St p e below T5 (mkF m 11 #[.val (.ref a_DEFLATE)] [(.ref a_ZLIB), (.ref a_DEFLATE)]) t → S0 t := fun t k => p4 t (st5 t k)
 have p7 : ∀ t, St p e below T5 (mkF m 15 #[.val (.ref a_DEFLATE)] [(.ref a_DEFLATE)]) t → S0 t := fun t k => p6 t (by
   show St p e below T5 (mkF m 11 #[.val (.ref a_DEFLATE)] [(.ref a_ZLIB), (.ref a_DEFLATE)]) t
   refine Jvm.RoadKit.acmp (g := (mkF m 11 #[.val (.ref a_DEFLATE)] [(.ref a_ZLIB), (.ref a_DEFLATE)])) X5 hx rfl rfl rfl (pc0 := 11) (pc' := 14) (same := false) rfl (hb hby d1_11) rfl (decide_eq_false fun q => (Fld.ne Fa_DEFLATE_ordinal Fa_ZLIB_ordinal (fun q => absurd (Value.int.inj q) (by decide))) (Value.ref.inj q)) (by decide) (by decide) ?_
   show St p e below T5 (mkF m 14 #[.val (.ref a_DEFLATE)] []) t
   refine XS.aloadN X5.here hx rfl (hb hby d1_14) rfl rfl ?_
   exact k)
 obtain ⟨T8, X8, e8, st8⟩ := getS2 X5 hx hZ hown (host := "") (Or.inl (ww hw 13 rfl)) Via.refl e5 (Sa_DEFLATE.ext O0.2) (g := (mkF m 15 #[.val (.ref a_DEFLATE)] [(.ref a_DEFLATE)])) rfl (hb hby d1_15)
 have p9 : ∀ t, St p e below T8 (mkF m 18 #[.val (.ref a_DEFLATE)] [(.ref a_DEFLATE), (.ref a_DEFLATE)]) t → S0 t := fun t k => p7 t (st8 t k)
 have p10 : ∀ t, St p e below T8 (mkF m 26 #[.val (.ref a_DEFLATE)] [(.int (1 : Int32))]) t → S0 t := fun t k => p9 t (by
   show St p e below T8 (mkF m 18 #[.val (.ref a_DEFLATE)] [(.ref a_DEFLATE), (.ref a_DEFLATE)]) t
   refine Jvm.RoadKit.acmp (g := (mkF m 18 #[.val (.ref a_DEFLATE)] [(.ref a_DEFLATE), (.ref a_DEFLATE)])) X8 hx rfl rfl rfl (pc0 := 18) (pc' := 21) (same := true) rfl (hb hby d1_18) rfl (decide_eq_true rfl) (by decide) (by decide) ?_
   show St p e below T8 (mkF m 21 #[.val (.ref a_DEFLATE)] []) t
   refine XT.iconstV X8.here hx rfl (1 : Int32) (hb hby d1_21) (by decide) ?_
   show St p e below T8 (mkF m 22 #[.val (.ref a_DEFLATE)] [(.int (1 : Int32))]) t
   refine XS.goto X8.here hx rfl (pc0 := 22) (pc' := 26) rfl (hb hby d1_22) (by decide) (by decide) ?_
   exact k)
 obtain ⟨fs, hr, hrun, hended, hW, hsame⟩ := X8.leave (v := some (.int (1 : Int32))) (fun h => by rw [Bd.returns] at h; cases h)
 refine ⟨_, _, p10 _ ?_, hrun, hended, _, _, rfl, ?_, ⟨_, rfl⟩, hW, hsame.mono (by decide) (by decide)⟩
 · exact retOut X8 hx Bd.returns rfl (Or.inl ⟨rfl, by simp, _, rfl⟩) (hb hby d1_26) hr
 · show Q1_13 Z a_NONE a_LZW a_ZLIB a_DEFLATE a_CCITT_T6 a_CCITT_RLE a_CCITT_T4 a_PACKBITS a_OLD_JPEG a_JPEG h0 n0 _ T8.heap _
   exact ⟨N0, e8, rfl⟩
def Q3_15 (Z : State) (a_NONE : Addr) (a_LZW : Addr) (a_ZLIB : Addr) (a_DEFLATE : Addr) (a_CCITT_T6 : Addr) (a_CCITT_RLE : Addr) (a_CCITT_T4 : Addr) (a_PACKBITS : Addr) (a_OLD_JPEG : Addr) (a_JPEG : Addr) (h0 : Heap) (n0 : Nat) (v : Option Value) (h : Heap) (L : List Loc) : Prop := Fr n0 L ∧ h = h0 ∧ ((v = some (.int (9 : Int32))))
set_option maxRecDepth 65536 in
set_option maxHeartbeats 40000000 in
theorem rm3_15 (l : Launch) (Z : State) (a0 : Array Value) (hw : ∀ d ∈ tables_1, d.before a0 Z = true) (ws : List Jvm.Cond) (a_NONE : Addr) (a_LZW : Addr) (a_ZLIB : Addr) (a_DEFLATE : Addr) (a_CCITT_T6 : Addr) (a_CCITT_RLE : Addr) (a_CCITT_T4 : Addr) (a_PACKBITS : Addr) (a_OLD_JPEG : Addr) (a_JPEG : Addr) (h0 : Heap) (n0 : Nat) (O0 : Old Z n0 h0) (HE : Env1 Z a_NONE a_LZW a_ZLIB a_DEFLATE a_CCITT_T6 a_CCITT_RLE a_CCITT_T4 a_PACKBITS a_OLD_JPEG a_JPEG)  :
    MetFree l M1 (head1 (Jvm.Cond.code M1 jdk_37_method_2_code 1 (some .int) :: ws) ({ frames := 0, cells := 0, slots := 0, locals := 0 } : Room)) (fun a U => a = #[(.ref a_DEFLATE)] ∧ Z.Warmed39 U.vm ∧ U.heap = h0) (fun _ _ _ _ _ => True) (fun _ U o U' => ∃ v L, o = .returned v ∧ Q3_15 Z a_NONE a_LZW a_ZLIB a_DEFLATE a_CCITT_T6 a_CCITT_RLE a_CCITT_T4 a_PACKBITS a_OLD_JPEG a_JPEG h0 n0 v U'.heap L ∧ FrameEnd U o U' L ({ frames := 0, cells := 0, slots := 0, locals := 0 } : Room).cells ({ frames := 0, cells := 0, slots := 0, locals := 0 } : Room).slots) := by
 refine MetFree.of_bodySF (plainFor_of_name pn2) hisR ?_
 intro p e s m args below meth c s₁ Bd hml0 hP hK
 obtain ⟨rfl, hZ, hh⟩ := hP
 have hx := Bd.exec
 have hby := Bd.bytes
 have hml : c.maxLocals = 1 := hml0
 have hown : s.vm.findClass "java/lang/Enum" = some m.cls := findClass_of_methodNamed Bd.named
 have hnm := (name_of_methodNamed Bd.named Bd.method).1
 have X0 : Stand p l e ({ frames := 0, cells := 0, slots := 0, locals := 0 } : Room) s m #[(.ref a_DEFLATE)] below meth c s₁ [] 0 0 := Stand.of_body Bd
 have e0 : s₁.heap = h0 := by rw [← hh, Bd.state]; rfl
 have N0 := Fr.nil n0
 let S0 : State → Prop := fun t => Steps p.tables e below (s₁.setTop (entryFrame m #[(.ref a_DEFLATE)] 1)) t
 have p0 : ∀ t, St p e below s₁ (mkF m 0 #[.val (.ref a_DEFLATE)] []) t → S0 t := fun t k => castTop (ef3 m a_DEFLATE) k
 have HE' := HE
 obtain ⟨Sa_NONE, Ea_NONE, Sa_LZW, Ea_LZW, Fa_NONE_ordinal, Fa_LZW_ordinal, Sa_ZLIB, Ea_ZLIB, Fa_ZLIB_ordinal, Sa_DEFLATE, Ea_DEFLATE, Fa_DEFLATE_ordinal, Sa_CCITT_T6, Ea_CCITT_T6, Fa_CCITT_T6_ordinal, Sa_CCITT_RLE, Ea_CCITT_RLE, Fa_CCITT_RLE_ordinal, Sa_CCITT_T4, Ea_CCITT_T4, Fa_CCITT_T4_ordinal, Sa_PACKBITS, Ea_PACKBITS, Fa_PACKBITS_ordinal, Sa_OLD_JPEG, Ea_OLD_JPEG, Fa_OLD_JPEG_ordinal, Sa_JPEG, Ea_JPEG, Fa_JPEG_ordinal⟩ := HE
 have p1 : ∀ t, St p e below s₁ (mkF m 1 #[.val (.ref a_DEFLATE)] [(.ref a_DEFLATE)]) t → S0 t := fun t k => p0 t (by
   show St p e below s₁ (mkF m 0 #[.val (.ref a_DEFLATE)] []) t
   refine XS.aloadN X0.here hx rfl (hb hby d3_0) rfl rfl ?_
   exact k)
 obtain ⟨T2, X2, e2, st2⟩ := getF X0 hx hZ hown (host := "") (Or.inl (ww hw 32 rfl)) Via.refl e0 (Fa_DEFLATE_ordinal.ext O0.2) (g := (mkF m 1 #[.val (.ref a_DEFLATE)] [(.ref a_DEFLATE)])) rfl rfl (hb hby d3_1)
 have p3 : ∀ t, St p e below T2 (mkF m 4 #[.val (.ref a_DEFLATE)] [(.int (9 : Int32))]) t → S0 t := fun t k => p1 t (st2 t k)
 obtain ⟨fs, hr, hrun, hended, hW, hsame⟩ := X2.leave (v := some (.int (9 : Int32))) (fun h => by rw [Bd.returns] at h; cases h)
 refine ⟨_, _, p3 _ ?_, hrun, hended, _, _, rfl, ?_, ⟨_, rfl⟩, hW, hsame.mono (by decide) (by decide)⟩
 · exact retOut X2 hx Bd.returns rfl (Or.inl ⟨rfl, by simp, _, rfl⟩) (hb hby d3_4) hr
 · show Q3_15 Z a_NONE a_LZW a_ZLIB a_DEFLATE a_CCITT_T6 a_CCITT_RLE a_CCITT_T4 a_PACKBITS a_OLD_JPEG a_JPEG h0 n0 _ T2.heap _
   exact ⟨N0, e2, rfl⟩
def Q2_14 (Z : State) (a_NONE : Addr) (a_LZW : Addr) (a_ZLIB : Addr) (a_DEFLATE : Addr) (a_CCITT_T6 : Addr) (a_CCITT_RLE : Addr) (a_CCITT_T4 : Addr) (a_PACKBITS : Addr) (a_OLD_JPEG : Addr) (a_JPEG : Addr) (h0 : Heap) (n0 : Nat) (v : Option Value) (h : Heap) (L : List Loc) : Prop := Fr n0 L ∧ h = h0 ∧ ((v = some (.int (1 : Int32))))
set_option maxRecDepth 65536 in
set_option maxHeartbeats 40000000 in
theorem rm2_14 (l : Launch) (Z : State) (a0 : Array Value) (hw : ∀ d ∈ tables_1, d.before a0 Z = true) (ws : List Jvm.Cond) (a_NONE : Addr) (a_LZW : Addr) (a_ZLIB : Addr) (a_DEFLATE : Addr) (a_CCITT_T6 : Addr) (a_CCITT_RLE : Addr) (a_CCITT_T4 : Addr) (a_PACKBITS : Addr) (a_OLD_JPEG : Addr) (a_JPEG : Addr) (h0 : Heap) (n0 : Nat) (O0 : Old Z n0 h0) (HE : Env1 Z a_NONE a_LZW a_ZLIB a_DEFLATE a_CCITT_T6 a_CCITT_RLE a_CCITT_T4 a_PACKBITS a_OLD_JPEG a_JPEG)  :
    MetFree l M3 (head1 (Jvm.Cond.code M3 prog_68_method_7_code 1 (some .boolean) :: ws) ({ frames := 1, cells := 0, slots := 0, locals := 12 } : Room)) (fun a U => a = #[(.ref a_DEFLATE)] ∧ Z.Warmed39 U.vm ∧ U.heap = h0) (fun _ _ _ _ _ => True) (fun _ U o U' => ∃ v L, o = .returned v ∧ Q2_14 Z a_NONE a_LZW a_ZLIB a_DEFLATE a_CCITT_T6 a_CCITT_RLE a_CCITT_T4 a_PACKBITS a_OLD_JPEG a_JPEG h0 n0 v U'.heap L ∧ FrameEnd U o U' L ({ frames := 1, cells := 0, slots := 0, locals := 12 } : Room).cells ({ frames := 1, cells := 0, slots := 0, locals := 12 } : Room).slots) := by
 refine MetFree.of_bodySF (plainFor_of_name pn1) hisR ?_
 intro p e s m args below meth c s₁ Bd hml0 hP hK
 obtain ⟨rfl, hZ, hh⟩ := hP
 have hx := Bd.exec
 have hby := Bd.bytes
 have hml : c.maxLocals = 1 := hml0
 have hown : s.vm.findClass "dev/ambrotype/imageio/TiffCompression" = some m.cls := findClass_of_methodNamed Bd.named
 have hnm := (name_of_methodNamed Bd.named Bd.method).1
 have X0 : Stand p l e ({ frames := 1, cells := 0, slots := 0, locals := 12 } : Room) s m #[(.ref a_DEFLATE)] below meth c s₁ [] 0 0 := Stand.of_body Bd
 have e0 : s₁.heap = h0 := by rw [← hh, Bd.state]; rfl
 have N0 := Fr.nil n0
 let S0 : State → Prop := fun t => Steps p.tables e below (s₁.setTop (entryFrame m #[(.ref a_DEFLATE)] 1)) t
 have p0 : ∀ t, St p e below s₁ (mkF m 0 #[.val (.ref a_DEFLATE)] []) t → S0 t := fun t k => castTop (ef2 m a_DEFLATE) k
 have HE' := HE
 obtain ⟨Sa_NONE, Ea_NONE, Sa_LZW, Ea_LZW, Fa_NONE_ordinal, Fa_LZW_ordinal, Sa_ZLIB, Ea_ZLIB, Fa_ZLIB_ordinal, Sa_DEFLATE, Ea_DEFLATE, Fa_DEFLATE_ordinal, Sa_CCITT_T6, Ea_CCITT_T6, Fa_CCITT_T6_ordinal, Sa_CCITT_RLE, Ea_CCITT_RLE, Fa_CCITT_RLE_ordinal, Sa_CCITT_T4, Ea_CCITT_T4, Fa_CCITT_T4_ordinal, Sa_PACKBITS, Ea_PACKBITS, Fa_PACKBITS_ordinal, Sa_OLD_JPEG, Ea_OLD_JPEG, Fa_OLD_JPEG_ordinal, Sa_JPEG, Ea_JPEG, Fa_JPEG_ordinal⟩ := HE
 have p1 : ∀ t, St p e below s₁ (mkF m 1 #[.val (.ref a_DEFLATE)] [(.ref a_DEFLATE)]) t → S0 t := fun t k => p0 t (by
   show St p e below s₁ (mkF m 0 #[.val (.ref a_DEFLATE)] []) t
   refine XS.aloadN X0.here hx rfl (hb hby d2_0) rfl rfl ?_
   exact k)
 obtain ⟨cqc2, kqc2, qc2a, qc2b, qc2c⟩ := isOf hZ e0 (Ea_DEFLATE.ext O0.2)
 obtain ⟨_, _, ⟨Tc2, Lc2, kc2, nc2⟩, -, Xc2, ⟨Lcc2, hQc2, lc2, yc2, zc2⟩, stc2⟩ := X0.virtualBackUp hx (owner := "java/lang/Enum") (x := M2) (y := M1) hown (mvT hZ (ww hw 25 rfl)) (mvT hZ (ww hw 26 rfl)) (mvT hZ (ww hw 27 rfl)) (by decide) (mvT hZ (ww hw 29 rfl)) (mvT hZ (ww hw 28 rfl)) (backOf (W := 0) (rm3_15 l Z a0 hw [] a_NONE a_LZW a_ZLIB a_DEFLATE a_CCITT_T6 a_CCITT_RLE a_CCITT_T4 a_PACKBITS a_OLD_JPEG a_JPEG h0 n0 O0 HE' ) hZ (ww hw 31 rfl) (ww hw 30 rfl) (by decide) (by decide)) qc2a qc2c (g := (mkF m 1 #[.val (.ref a_DEFLATE)] [(.ref a_DEFLATE)])) rfl (by rw [hml]; rfl) (Steps.refl _) (argsL := []) (rest := []) (lenOf pd1 rfl) rfl (by show 2 * 0 + _ ≤ _; exact Nat.le_of_eq rfl) (hb hby d2_1) (fun _ _ => ⟨rfl, e0, (by decide : 0 + 0 ≤ _), (by decide : 0 + 0 ≤ _)⟩)
 dsimp only [Pt.U, Pt.locs, Pt.cells, Pt.slots] at Xc2 lc2 yc2 zc2 stc2 hQc2
 subst lc2 yc2 zc2
 obtain ⟨Nqc2, ec2, hAc2⟩ := hQc2
 have Nc2 := Fr.app N0 Nqc2
 obtain rfl := hAc2
 have p3 : ∀ t, St p e below Tc2 (mkF m 4 #[.val (.ref a_DEFLATE)] [(.int (9 : Int32))]) t → S0 t := fun t k => p1 t (stc2.trans k)
 have p4 : ∀ t, St p e below Tc2 (mkF m 65 #[.val (.ref a_DEFLATE)] [(.int (1 : Int32))]) t → S0 t := fun t k => p3 t (by
   show St p e below Tc2 (mkF m 4 #[.val (.ref a_DEFLATE)] [(.int (9 : Int32))]) t
   refine XS.tswIn Xc2.here hx rfl (pc0 := 4) (pc' := 60) rfl (hb hby d2_4) rfl (by decide) (o := 56) (by decide) (by decide) (by decide) ?_
   show St p e below Tc2 (mkF m 60 #[.val (.ref a_DEFLATE)] []) t
   refine XT.iconstV Xc2.here hx rfl (1 : Int32) (hb hby d2_60) (by decide) ?_
   show St p e below Tc2 (mkF m 61 #[.val (.ref a_DEFLATE)] [(.int (1 : Int32))]) t
   refine XS.goto Xc2.here hx rfl (pc0 := 61) (pc' := 65) rfl (hb hby d2_61) (by decide) (by decide) ?_
   exact k)
 obtain ⟨fs, hr, hrun, hended, hW, hsame⟩ := Xc2.leave (v := some (.int (1 : Int32))) (fun h => by rw [Bd.returns] at h; cases h)
 refine ⟨_, _, p4 _ ?_, hrun, hended, _, _, rfl, ?_, ⟨_, rfl⟩, hW, hsame.mono (by decide) (by decide)⟩
 · exact retOut Xc2 hx Bd.returns rfl (Or.inl ⟨rfl, by simp, _, rfl⟩) (hb hby d2_65) hr
 · show Q2_14 Z a_NONE a_LZW a_ZLIB a_DEFLATE a_CCITT_T6 a_CCITT_RLE a_CCITT_T4 a_PACKBITS a_OLD_JPEG a_JPEG h0 n0 _ Tc2.heap _
   exact ⟨Nc2, ec2, rfl⟩
def Q0 (Z : State) (a_NONE : Addr) (a_LZW : Addr) (a_ZLIB : Addr) (a_DEFLATE : Addr) (a_CCITT_T6 : Addr) (a_CCITT_RLE : Addr) (a_CCITT_T4 : Addr) (a_PACKBITS : Addr) (a_OLD_JPEG : Addr) (a_JPEG : Addr) (i0 : Int32) (h0 : Heap) (n0 : Nat) (v : Option Value) (h : Heap) (L : List Loc) : Prop := v = some (.int 1) ∧ Fr n0 L
set_option maxRecDepth 65536 in
set_option maxHeartbeats 40000000 in
theorem rm0 (l : Launch) (Z : State) (a0 : Array Value) (hw : ∀ d ∈ tables_1, d.before a0 Z = true) (ws : List Jvm.Cond) (a_NONE : Addr) (a_LZW : Addr) (a_ZLIB : Addr) (a_DEFLATE : Addr) (a_CCITT_T6 : Addr) (a_CCITT_RLE : Addr) (a_CCITT_T4 : Addr) (a_PACKBITS : Addr) (a_OLD_JPEG : Addr) (a_JPEG : Addr) (i0 : Int32) (h0 : Heap) (n0 : Nat) (O0 : Old Z n0 h0) (HE : Env1 Z a_NONE a_LZW a_ZLIB a_DEFLATE a_CCITT_T6 a_CCITT_RLE a_CCITT_T4 a_PACKBITS a_OLD_JPEG a_JPEG)  :
    MetFree l x (head1 (Jvm.Cond.code x code maxLocals ret :: ws) room_1) (fun a U => a = #[(.int i0)] ∧ Z.Warmed39 U.vm ∧ U.heap = h0) (fun _ _ _ _ _ => True) (fun _ U o U' => ∃ v L, o = .returned v ∧ Q0 Z a_NONE a_LZW a_ZLIB a_DEFLATE a_CCITT_T6 a_CCITT_RLE a_CCITT_T4 a_PACKBITS a_OLD_JPEG a_JPEG i0 h0 n0 v U'.heap L ∧ FrameEnd U o U' L 0 0) := by
 refine MetFree.of_bodySF (plainFor_of_name pn0) hisR ?_
 intro p e s m args below meth c s₁ Bd hml0 hP hK
 obtain ⟨rfl, hZ, hh⟩ := hP
 have hx := Bd.exec
 have hby := Bd.bytes
 have hml : c.maxLocals = 5 := hml0
 have hown : s.vm.findClass "dev/ambrotype/imageio/TiffCompressionPredictedPinLaw" = some m.cls := findClass_of_methodNamed Bd.named
 have hnm := (name_of_methodNamed Bd.named Bd.method).1
 have X0 : Stand p l e room_1 s m #[(.int i0)] below meth c s₁ [] 0 0 := Stand.of_body Bd
 have e0 : s₁.heap = h0 := by rw [← hh, Bd.state]; rfl
 have N0 := Fr.nil n0
 let S0 : State → Prop := fun t => Steps p.tables e below (s₁.setTop (entryFrame m #[(.int i0)] maxLocals)) t
 have p0 : ∀ t, St p e below s₁ (mkF m 0 #[.val (.int i0), .unset, .unset, .unset, .unset] []) t → S0 t := fun t k => castTop (ef0 m i0) k
 have HE' := HE
 obtain ⟨Sa_NONE, Ea_NONE, Sa_LZW, Ea_LZW, Fa_NONE_ordinal, Fa_LZW_ordinal, Sa_ZLIB, Ea_ZLIB, Fa_ZLIB_ordinal, Sa_DEFLATE, Ea_DEFLATE, Fa_DEFLATE_ordinal, Sa_CCITT_T6, Ea_CCITT_T6, Fa_CCITT_T6_ordinal, Sa_CCITT_RLE, Ea_CCITT_RLE, Fa_CCITT_RLE_ordinal, Sa_CCITT_T4, Ea_CCITT_T4, Fa_CCITT_T4_ordinal, Sa_PACKBITS, Ea_PACKBITS, Fa_PACKBITS_ordinal, Sa_OLD_JPEG, Ea_OLD_JPEG, Fa_OLD_JPEG_ordinal, Sa_JPEG, Ea_JPEG, Fa_JPEG_ordinal⟩ := HE
 let Ls1 : Array Slot := #[.val (.int i0), .val (.int ((i0 &&& (2147483647 : Int32)) % (10 : Int32))), .unset, .unset, .unset]
 have p2 : ∀ t, St p e below s₁ (mkF m 9 Ls1 [(.int ((i0 &&& (2147483647 : Int32)) % (10 : Int32)))]) t → S0 t := fun t k => p0 t (by
   show St p e below s₁ (mkF m 0 #[.val (.int i0), .unset, .unset, .unset, .unset] []) t
   refine XS.iloadN X0.here hx rfl (hb hby at_0) rfl ?_
   show St p e below s₁ (mkF m 1 #[.val (.int i0), .unset, .unset, .unset, .unset] [(.int i0)]) t
   refine X0.ldcI hx hown (mvT hZ (ww hw 0 rfl)) rfl (hb hby at_1) ?_
   show St p e below s₁ (mkF m 3 #[.val (.int i0), .unset, .unset, .unset, .unset] [(.int (2147483647 : Int32)), (.int i0)]) t
   refine XS.iand X0.here hx rfl (hb hby at_3) rfl ?_
   show St p e below s₁ (mkF m 4 #[.val (.int i0), .unset, .unset, .unset, .unset] [(.int (i0 &&& (2147483647 : Int32)))]) t
   refine XT.bipushV X0.here hx rfl (10 : Int32) (hb hby at_4) (by decide) ?_
   show St p e below s₁ (mkF m 6 #[.val (.int i0), .unset, .unset, .unset, .unset] [(.int (10 : Int32)), (.int (i0 &&& (2147483647 : Int32)))]) t
   refine iremM X0 hx rfl (hb hby at_6) rfl (by decide : ¬ ((10 : Int32) = (0 : Int32))) ?_
   show St p e below s₁ (mkF m 7 #[.val (.int i0), .unset, .unset, .unset, .unset] [(.int ((i0 &&& (2147483647 : Int32)) % (10 : Int32)))]) t
   refine XS.istoreN X0.here hx rfl (hb hby at_7) rfl (l' := Ls1) rfl ?_
   show St p e below s₁ (mkF m 8 Ls1 []) t
   refine XS.iloadN X0.here hx rfl (hb hby at_8) rfl ?_
   exact k)
 by_cases g3 : ((i0 &&& (2147483647 : Int32)) % (10 : Int32)) = (0 : Int32)
 ·
  have p4 : ∀ t, St p e below s₁ (mkF m 12 Ls1 []) t → S0 t := fun t k => p2 t (by
    show St p e below s₁ (mkF m 9 Ls1 [(.int ((i0 &&& (2147483647 : Int32)) % (10 : Int32)))]) t
    refine XS.ifNo X0.here hx rfl (hb hby at_9) rfl ((if0 _ _).trans (teq g3).2) ?_
    exact k)
  obtain ⟨T5, X5, e5, st5⟩ := getS2 X0 hx hZ hown (host := "") (Or.inl (ww hw 1 rfl)) Via.refl e0 (Sa_NONE.ext O0.2) (g := (mkF m 12 Ls1 [])) rfl (hb hby at_12)
  have p6 : ∀ t, St p e below T5 (mkF m 15 Ls1 [(.ref a_NONE)]) t → S0 t := fun t k => p4 t (st5 t k)
  let Ls7 : Array Slot := #[.val (.int i0), .val (.int ((i0 &&& (2147483647 : Int32)) % (10 : Int32))), .val (.ref a_NONE), .unset, .unset]
  let Ls8 : Array Slot := #[.val (.int i0), .val (.int ((i0 &&& (2147483647 : Int32)) % (10 : Int32))), .val (.ref a_NONE), .val (.int (0 : Int32)), .unset]
  have p9 : ∀ t, St p e below T5 (mkF m 143 Ls8 [(.ref a_NONE)]) t → S0 t := fun t k => p6 t (by
    show St p e below T5 (mkF m 15 Ls1 [(.ref a_NONE)]) t
    refine XS.astoreN X5.here hx rfl (hb hby at_15) rfl rfl (l' := Ls7) rfl ?_
    show St p e below T5 (mkF m 16 Ls7 []) t
    refine XT.iconstV X5.here hx rfl (0 : Int32) (hb hby at_16) (by decide) ?_
    show St p e below T5 (mkF m 17 Ls7 [(.int (0 : Int32))]) t
    refine XS.istoreN X5.here hx rfl (hb hby at_17) rfl (l' := Ls8) rfl ?_
    show St p e below T5 (mkF m 18 Ls8 []) t
    refine XS.goto X5.here hx rfl (pc0 := 18) (pc' := 142) rfl (hb hby at_18) (by decide) (by decide) ?_
    show St p e below T5 (mkF m 142 Ls8 []) t
    refine XS.aloadN X5.here hx rfl (hb hby at_142) rfl rfl ?_
    exact k)
  obtain ⟨cqc10, kqc10, qc10a, qc10b, qc10c⟩ := isOf hZ e5 (Ea_NONE.ext O0.2)
  obtain ⟨_, _, ⟨Tc10, Lc10, kc10, nc10⟩, -, Xc10, ⟨Lcc10, hQc10, lc10, yc10, zc10⟩, stc10⟩ := X5.virtualBack hx (y := M0) (z := M0) hown (mvT hZ (ww hw 4 rfl)) (mvT hZ (ww hw 5 rfl)) (notFace_of_selects (args := #[]) (mvT hZ (ww hw 7 rfl))) (mvT hZ (ww hw 7 rfl)) (mvT hZ (ww hw 6 rfl)) (by decide) (backOf (W := 0) (rm1_0 l Z a0 hw [] a_NONE a_LZW a_ZLIB a_DEFLATE a_CCITT_T6 a_CCITT_RLE a_CCITT_T4 a_PACKBITS a_OLD_JPEG a_JPEG h0 n0 O0 HE' ) hZ (ww hw 8 rfl) (ww hw 2 rfl) (by decide) (by decide)) qc10a qc10c (g := (mkF m 143 Ls8 [(.ref a_NONE)])) rfl (by rw [hml]; rfl) (Steps.refl _) (argsL := []) (rest := []) (lenOf pd0 rfl) rfl (by show 2 * 0 + _ ≤ _; exact Nat.le_of_eq rfl) (hb hby at_143) (fun _ _ => ⟨rfl, e5, (by decide : 0 + 0 ≤ _), (by decide : 0 + 0 ≤ _)⟩)
  dsimp only [Pt.U, Pt.locs, Pt.cells, Pt.slots] at Xc10 lc10 yc10 zc10 stc10 hQc10
  subst lc10 yc10 zc10
  obtain ⟨Nqc10, ec10, hAc10⟩ := hQc10
  have Nc10 := Fr.app N0 Nqc10
  obtain rfl := hAc10
  have p11 : ∀ t, St p e below Tc10 (mkF m 146 Ls8 [(.int (0 : Int32))]) t → S0 t := fun t k => p9 t (stc10.trans k)
  let Ls12 : Array Slot := #[.val (.int i0), .val (.int ((i0 &&& (2147483647 : Int32)) % (10 : Int32))), .val (.ref a_NONE), .val (.int (0 : Int32)), .val (.int (0 : Int32))]
  have p13 : ∀ t, St p e below Tc10 (mkF m 171 Ls12 [(.int (1 : Int32))]) t → S0 t := fun t k => p11 t (by
    show St p e below Tc10 (mkF m 146 Ls8 [(.int (0 : Int32))]) t
    refine XS.istore Xc10.here hx rfl (hb hby at_146) rfl (l' := Ls12) rfl ?_
    show St p e below Tc10 (mkF m 148 Ls12 []) t
    refine XS.iload Xc10.here hx rfl (hb hby at_148) rfl ?_
    show St p e below Tc10 (mkF m 150 Ls12 [(.int (0 : Int32))]) t
    refine XS.iloadN Xc10.here hx rfl (hb hby at_150) rfl ?_
    show St p e below Tc10 (mkF m 151 Ls12 [(.int (0 : Int32)), (.int (0 : Int32))]) t
    refine XS.icmpNo Xc10.here hx rfl (hb hby at_151) rfl (teq (by decide : (0 : Int32) = (0 : Int32))).2 ?_
    show St p e below Tc10 (mkF m 154 Ls12 []) t
    refine XS.iload Xc10.here hx rfl (hb hby at_154) rfl ?_
    show St p e below Tc10 (mkF m 156 Ls12 [(.int (0 : Int32))]) t
    refine XS.ifYes Xc10.here hx rfl (pc0 := 156) (pc' := 166) rfl (hb hby at_156) rfl ((if0 _ _).trans (teq (by decide : (0 : Int32) = (0 : Int32))).1) (by decide) (by decide) ?_
    show St p e below Tc10 (mkF m 166 Ls12 []) t
    refine XT.iconstV Xc10.here hx rfl (1 : Int32) (hb hby at_166) (by decide) ?_
    show St p e below Tc10 (mkF m 167 Ls12 [(.int (1 : Int32))]) t
    refine XS.goto Xc10.here hx rfl (pc0 := 167) (pc' := 171) rfl (hb hby at_167) (by decide) (by decide) ?_
    exact k)
  obtain ⟨fs, hr, hrun, hended, hW, hsame⟩ := Xc10.leave (v := some (.int (1 : Int32))) (fun h => by rw [Bd.returns] at h; cases h)
  refine ⟨_, _, p13 _ ?_, hrun, hended, _, _, rfl, ?_, ⟨_, rfl⟩, hW, hsame.mono (by decide) (by decide)⟩
  · exact retOut Xc10 hx Bd.returns rfl (Or.inl ⟨rfl, by simp, _, rfl⟩) (hb hby at_171) hr
  · exact ⟨rfl, Nc10⟩
 ·
  have p14 : ∀ t, St p e below s₁ (mkF m 23 Ls1 [(.int (1 : Int32)), (.int ((i0 &&& (2147483647 : Int32)) % (10 : Int32)))]) t → S0 t := fun t k => p2 t (by
    show St p e below s₁ (mkF m 9 Ls1 [(.int ((i0 &&& (2147483647 : Int32)) % (10 : Int32)))]) t
    refine XS.ifYes X0.here hx rfl (pc0 := 9) (pc' := 21) rfl (hb hby at_9) rfl ((if0 _ _).trans (feq g3).2) (by decide) (by decide) ?_
    show St p e below s₁ (mkF m 21 Ls1 []) t
    refine XS.iloadN X0.here hx rfl (hb hby at_21) rfl ?_
    show St p e below s₁ (mkF m 22 Ls1 [(.int ((i0 &&& (2147483647 : Int32)) % (10 : Int32)))]) t
    refine XT.iconstV X0.here hx rfl (1 : Int32) (hb hby at_22) (by decide) ?_
    exact k)
  by_cases g15 : ((i0 &&& (2147483647 : Int32)) % (10 : Int32)) = (1 : Int32)
  ·
   have p16 : ∀ t, St p e below s₁ (mkF m 26 Ls1 []) t → S0 t := fun t k => p14 t (by
     show St p e below s₁ (mkF m 23 Ls1 [(.int (1 : Int32)), (.int ((i0 &&& (2147483647 : Int32)) % (10 : Int32)))]) t
     refine XS.icmpNo X0.here hx rfl (hb hby at_23) rfl (teq g15).2 ?_
     exact k)
   obtain ⟨T17, X17, e17, st17⟩ := getS2 X0 hx hZ hown (host := "") (Or.inl (ww hw 17 rfl)) Via.refl e0 (Sa_CCITT_RLE.ext O0.2) (g := (mkF m 26 Ls1 [])) rfl (hb hby at_26)
   have p18 : ∀ t, St p e below T17 (mkF m 29 Ls1 [(.ref a_CCITT_RLE)]) t → S0 t := fun t k => p16 t (st17 t k)
   let Ls19 : Array Slot := #[.val (.int i0), .val (.int ((i0 &&& (2147483647 : Int32)) % (10 : Int32))), .val (.ref a_CCITT_RLE), .unset, .unset]
   let Ls20 : Array Slot := #[.val (.int i0), .val (.int ((i0 &&& (2147483647 : Int32)) % (10 : Int32))), .val (.ref a_CCITT_RLE), .val (.int (0 : Int32)), .unset]
   have p21 : ∀ t, St p e below T17 (mkF m 143 Ls20 [(.ref a_CCITT_RLE)]) t → S0 t := fun t k => p18 t (by
     show St p e below T17 (mkF m 29 Ls1 [(.ref a_CCITT_RLE)]) t
     refine XS.astoreN X17.here hx rfl (hb hby at_29) rfl rfl (l' := Ls19) rfl ?_
     show St p e below T17 (mkF m 30 Ls19 []) t
     refine XT.iconstV X17.here hx rfl (0 : Int32) (hb hby at_30) (by decide) ?_
     show St p e below T17 (mkF m 31 Ls19 [(.int (0 : Int32))]) t
     refine XS.istoreN X17.here hx rfl (hb hby at_31) rfl (l' := Ls20) rfl ?_
     show St p e below T17 (mkF m 32 Ls20 []) t
     refine XS.goto X17.here hx rfl (pc0 := 32) (pc' := 142) rfl (hb hby at_32) (by decide) (by decide) ?_
     show St p e below T17 (mkF m 142 Ls20 []) t
     refine XS.aloadN X17.here hx rfl (hb hby at_142) rfl rfl ?_
     exact k)
   obtain ⟨cqc22, kqc22, qc22a, qc22b, qc22c⟩ := isOf hZ e17 (Ea_CCITT_RLE.ext O0.2)
   obtain ⟨_, _, ⟨Tc22, Lc22, kc22, nc22⟩, -, Xc22, ⟨Lcc22, hQc22, lc22, yc22, zc22⟩, stc22⟩ := X17.virtualBack hx (y := M0) (z := M0) hown (mvT hZ (ww hw 4 rfl)) (mvT hZ (ww hw 5 rfl)) (notFace_of_selects (args := #[]) (mvT hZ (ww hw 7 rfl))) (mvT hZ (ww hw 7 rfl)) (mvT hZ (ww hw 6 rfl)) (by decide) (backOf (W := 0) (rm1_1 l Z a0 hw [] a_NONE a_LZW a_ZLIB a_DEFLATE a_CCITT_T6 a_CCITT_RLE a_CCITT_T4 a_PACKBITS a_OLD_JPEG a_JPEG h0 n0 O0 HE' ) hZ (ww hw 8 rfl) (ww hw 2 rfl) (by decide) (by decide)) qc22a qc22c (g := (mkF m 143 Ls20 [(.ref a_CCITT_RLE)])) rfl (by rw [hml]; rfl) (Steps.refl _) (argsL := []) (rest := []) (lenOf pd0 rfl) rfl (by show 2 * 0 + _ ≤ _; exact Nat.le_of_eq rfl) (hb hby at_143) (fun _ _ => ⟨rfl, e17, (by decide : 0 + 0 ≤ _), (by decide : 0 + 0 ≤ _)⟩)
   dsimp only [Pt.U, Pt.locs, Pt.cells, Pt.slots] at Xc22 lc22 yc22 zc22 stc22 hQc22
   subst lc22 yc22 zc22
   obtain ⟨Nqc22, ec22, hAc22⟩ := hQc22
   have Nc22 := Fr.app N0 Nqc22
   obtain rfl := hAc22
   have p23 : ∀ t, St p e below Tc22 (mkF m 146 Ls20 [(.int (0 : Int32))]) t → S0 t := fun t k => p21 t (stc22.trans k)
   let Ls24 : Array Slot := #[.val (.int i0), .val (.int ((i0 &&& (2147483647 : Int32)) % (10 : Int32))), .val (.ref a_CCITT_RLE), .val (.int (0 : Int32)), .val (.int (0 : Int32))]
   have p25 : ∀ t, St p e below Tc22 (mkF m 171 Ls24 [(.int (1 : Int32))]) t → S0 t := fun t k => p23 t (by
     show St p e below Tc22 (mkF m 146 Ls20 [(.int (0 : Int32))]) t
     refine XS.istore Xc22.here hx rfl (hb hby at_146) rfl (l' := Ls24) rfl ?_
     show St p e below Tc22 (mkF m 148 Ls24 []) t
     refine XS.iload Xc22.here hx rfl (hb hby at_148) rfl ?_
     show St p e below Tc22 (mkF m 150 Ls24 [(.int (0 : Int32))]) t
     refine XS.iloadN Xc22.here hx rfl (hb hby at_150) rfl ?_
     show St p e below Tc22 (mkF m 151 Ls24 [(.int (0 : Int32)), (.int (0 : Int32))]) t
     refine XS.icmpNo Xc22.here hx rfl (hb hby at_151) rfl (teq (by decide : (0 : Int32) = (0 : Int32))).2 ?_
     show St p e below Tc22 (mkF m 154 Ls24 []) t
     refine XS.iload Xc22.here hx rfl (hb hby at_154) rfl ?_
     show St p e below Tc22 (mkF m 156 Ls24 [(.int (0 : Int32))]) t
     refine XS.ifYes Xc22.here hx rfl (pc0 := 156) (pc' := 166) rfl (hb hby at_156) rfl ((if0 _ _).trans (teq (by decide : (0 : Int32) = (0 : Int32))).1) (by decide) (by decide) ?_
     show St p e below Tc22 (mkF m 166 Ls24 []) t
     refine XT.iconstV Xc22.here hx rfl (1 : Int32) (hb hby at_166) (by decide) ?_
     show St p e below Tc22 (mkF m 167 Ls24 [(.int (1 : Int32))]) t
     refine XS.goto Xc22.here hx rfl (pc0 := 167) (pc' := 171) rfl (hb hby at_167) (by decide) (by decide) ?_
     exact k)
   obtain ⟨fs, hr, hrun, hended, hW, hsame⟩ := Xc22.leave (v := some (.int (1 : Int32))) (fun h => by rw [Bd.returns] at h; cases h)
   refine ⟨_, _, p25 _ ?_, hrun, hended, _, _, rfl, ?_, ⟨_, rfl⟩, hW, hsame.mono (by decide) (by decide)⟩
   · exact retOut Xc22 hx Bd.returns rfl (Or.inl ⟨rfl, by simp, _, rfl⟩) (hb hby at_171) hr
   · exact ⟨rfl, Nc22⟩
  ·
   have p26 : ∀ t, St p e below s₁ (mkF m 37 Ls1 [(.int (2 : Int32)), (.int ((i0 &&& (2147483647 : Int32)) % (10 : Int32)))]) t → S0 t := fun t k => p14 t (by
     show St p e below s₁ (mkF m 23 Ls1 [(.int (1 : Int32)), (.int ((i0 &&& (2147483647 : Int32)) % (10 : Int32)))]) t
     refine XS.icmpYes X0.here hx rfl (pc0 := 23) (pc' := 35) rfl (hb hby at_23) rfl (feq g15).2 (by decide) (by decide) ?_
     show St p e below s₁ (mkF m 35 Ls1 []) t
     refine XS.iloadN X0.here hx rfl (hb hby at_35) rfl ?_
     show St p e below s₁ (mkF m 36 Ls1 [(.int ((i0 &&& (2147483647 : Int32)) % (10 : Int32)))]) t
     refine XT.iconstV X0.here hx rfl (2 : Int32) (hb hby at_36) (by decide) ?_
     exact k)
   by_cases g27 : ((i0 &&& (2147483647 : Int32)) % (10 : Int32)) = (2 : Int32)
   ·
    have p28 : ∀ t, St p e below s₁ (mkF m 40 Ls1 []) t → S0 t := fun t k => p26 t (by
      show St p e below s₁ (mkF m 37 Ls1 [(.int (2 : Int32)), (.int ((i0 &&& (2147483647 : Int32)) % (10 : Int32)))]) t
      refine XS.icmpNo X0.here hx rfl (hb hby at_37) rfl (teq g27).2 ?_
      exact k)
    obtain ⟨T29, X29, e29, st29⟩ := getS2 X0 hx hZ hown (host := "") (Or.inl (ww hw 35 rfl)) Via.refl e0 (Sa_CCITT_T4.ext O0.2) (g := (mkF m 40 Ls1 [])) rfl (hb hby at_40)
    have p30 : ∀ t, St p e below T29 (mkF m 43 Ls1 [(.ref a_CCITT_T4)]) t → S0 t := fun t k => p28 t (st29 t k)
    let Ls31 : Array Slot := #[.val (.int i0), .val (.int ((i0 &&& (2147483647 : Int32)) % (10 : Int32))), .val (.ref a_CCITT_T4), .unset, .unset]
    let Ls32 : Array Slot := #[.val (.int i0), .val (.int ((i0 &&& (2147483647 : Int32)) % (10 : Int32))), .val (.ref a_CCITT_T4), .val (.int (0 : Int32)), .unset]
    have p33 : ∀ t, St p e below T29 (mkF m 143 Ls32 [(.ref a_CCITT_T4)]) t → S0 t := fun t k => p30 t (by
      show St p e below T29 (mkF m 43 Ls1 [(.ref a_CCITT_T4)]) t
      refine XS.astoreN X29.here hx rfl (hb hby at_43) rfl rfl (l' := Ls31) rfl ?_
      show St p e below T29 (mkF m 44 Ls31 []) t
      refine XT.iconstV X29.here hx rfl (0 : Int32) (hb hby at_44) (by decide) ?_
      show St p e below T29 (mkF m 45 Ls31 [(.int (0 : Int32))]) t
      refine XS.istoreN X29.here hx rfl (hb hby at_45) rfl (l' := Ls32) rfl ?_
      show St p e below T29 (mkF m 46 Ls32 []) t
      refine XS.goto X29.here hx rfl (pc0 := 46) (pc' := 142) rfl (hb hby at_46) (by decide) (by decide) ?_
      show St p e below T29 (mkF m 142 Ls32 []) t
      refine XS.aloadN X29.here hx rfl (hb hby at_142) rfl rfl ?_
      exact k)
    obtain ⟨cqc34, kqc34, qc34a, qc34b, qc34c⟩ := isOf hZ e29 (Ea_CCITT_T4.ext O0.2)
    obtain ⟨_, _, ⟨Tc34, Lc34, kc34, nc34⟩, -, Xc34, ⟨Lcc34, hQc34, lc34, yc34, zc34⟩, stc34⟩ := X29.virtualBack hx (y := M0) (z := M0) hown (mvT hZ (ww hw 4 rfl)) (mvT hZ (ww hw 5 rfl)) (notFace_of_selects (args := #[]) (mvT hZ (ww hw 7 rfl))) (mvT hZ (ww hw 7 rfl)) (mvT hZ (ww hw 6 rfl)) (by decide) (backOf (W := 0) (rm1_2 l Z a0 hw [] a_NONE a_LZW a_ZLIB a_DEFLATE a_CCITT_T6 a_CCITT_RLE a_CCITT_T4 a_PACKBITS a_OLD_JPEG a_JPEG h0 n0 O0 HE' ) hZ (ww hw 8 rfl) (ww hw 2 rfl) (by decide) (by decide)) qc34a qc34c (g := (mkF m 143 Ls32 [(.ref a_CCITT_T4)])) rfl (by rw [hml]; rfl) (Steps.refl _) (argsL := []) (rest := []) (lenOf pd0 rfl) rfl (by show 2 * 0 + _ ≤ _; exact Nat.le_of_eq rfl) (hb hby at_143) (fun _ _ => ⟨rfl, e29, (by decide : 0 + 0 ≤ _), (by decide : 0 + 0 ≤ _)⟩)
    dsimp only [Pt.U, Pt.locs, Pt.cells, Pt.slots] at Xc34 lc34 yc34 zc34 stc34 hQc34
    subst lc34 yc34 zc34
    obtain ⟨Nqc34, ec34, hAc34⟩ := hQc34
    have Nc34 := Fr.app N0 Nqc34
    obtain rfl := hAc34
    have p35 : ∀ t, St p e below Tc34 (mkF m 146 Ls32 [(.int (0 : Int32))]) t → S0 t := fun t k => p33 t (stc34.trans k)
    let Ls36 : Array Slot := #[.val (.int i0), .val (.int ((i0 &&& (2147483647 : Int32)) % (10 : Int32))), .val (.ref a_CCITT_T4), .val (.int (0 : Int32)), .val (.int (0 : Int32))]
    have p37 : ∀ t, St p e below Tc34 (mkF m 171 Ls36 [(.int (1 : Int32))]) t → S0 t := fun t k => p35 t (by
      show St p e below Tc34 (mkF m 146 Ls32 [(.int (0 : Int32))]) t
      refine XS.istore Xc34.here hx rfl (hb hby at_146) rfl (l' := Ls36) rfl ?_
      show St p e below Tc34 (mkF m 148 Ls36 []) t
      refine XS.iload Xc34.here hx rfl (hb hby at_148) rfl ?_
      show St p e below Tc34 (mkF m 150 Ls36 [(.int (0 : Int32))]) t
      refine XS.iloadN Xc34.here hx rfl (hb hby at_150) rfl ?_
      show St p e below Tc34 (mkF m 151 Ls36 [(.int (0 : Int32)), (.int (0 : Int32))]) t
      refine XS.icmpNo Xc34.here hx rfl (hb hby at_151) rfl (teq (by decide : (0 : Int32) = (0 : Int32))).2 ?_
      show St p e below Tc34 (mkF m 154 Ls36 []) t
      refine XS.iload Xc34.here hx rfl (hb hby at_154) rfl ?_
      show St p e below Tc34 (mkF m 156 Ls36 [(.int (0 : Int32))]) t
      refine XS.ifYes Xc34.here hx rfl (pc0 := 156) (pc' := 166) rfl (hb hby at_156) rfl ((if0 _ _).trans (teq (by decide : (0 : Int32) = (0 : Int32))).1) (by decide) (by decide) ?_
      show St p e below Tc34 (mkF m 166 Ls36 []) t
      refine XT.iconstV Xc34.here hx rfl (1 : Int32) (hb hby at_166) (by decide) ?_
      show St p e below Tc34 (mkF m 167 Ls36 [(.int (1 : Int32))]) t
      refine XS.goto Xc34.here hx rfl (pc0 := 167) (pc' := 171) rfl (hb hby at_167) (by decide) (by decide) ?_
      exact k)
    obtain ⟨fs, hr, hrun, hended, hW, hsame⟩ := Xc34.leave (v := some (.int (1 : Int32))) (fun h => by rw [Bd.returns] at h; cases h)
    refine ⟨_, _, p37 _ ?_, hrun, hended, _, _, rfl, ?_, ⟨_, rfl⟩, hW, hsame.mono (by decide) (by decide)⟩
    · exact retOut Xc34 hx Bd.returns rfl (Or.inl ⟨rfl, by simp, _, rfl⟩) (hb hby at_171) hr
    · exact ⟨rfl, Nc34⟩
   ·
    have p38 : ∀ t, St p e below s₁ (mkF m 51 Ls1 [(.int (3 : Int32)), (.int ((i0 &&& (2147483647 : Int32)) % (10 : Int32)))]) t → S0 t := fun t k => p26 t (by
      show St p e below s₁ (mkF m 37 Ls1 [(.int (2 : Int32)), (.int ((i0 &&& (2147483647 : Int32)) % (10 : Int32)))]) t
      refine XS.icmpYes X0.here hx rfl (pc0 := 37) (pc' := 49) rfl (hb hby at_37) rfl (feq g27).2 (by decide) (by decide) ?_
      show St p e below s₁ (mkF m 49 Ls1 []) t
      refine XS.iloadN X0.here hx rfl (hb hby at_49) rfl ?_
      show St p e below s₁ (mkF m 50 Ls1 [(.int ((i0 &&& (2147483647 : Int32)) % (10 : Int32)))]) t
      refine XT.iconstV X0.here hx rfl (3 : Int32) (hb hby at_50) (by decide) ?_
      exact k)
    by_cases g39 : ((i0 &&& (2147483647 : Int32)) % (10 : Int32)) = (3 : Int32)
    ·
     have p40 : ∀ t, St p e below s₁ (mkF m 54 Ls1 []) t → S0 t := fun t k => p38 t (by
       show St p e below s₁ (mkF m 51 Ls1 [(.int (3 : Int32)), (.int ((i0 &&& (2147483647 : Int32)) % (10 : Int32)))]) t
       refine XS.icmpNo X0.here hx rfl (hb hby at_51) rfl (teq g39).2 ?_
       exact k)
     obtain ⟨T41, X41, e41, st41⟩ := getS2 X0 hx hZ hown (host := "") (Or.inl (ww hw 15 rfl)) Via.refl e0 (Sa_CCITT_T6.ext O0.2) (g := (mkF m 54 Ls1 [])) rfl (hb hby at_54)
     have p42 : ∀ t, St p e below T41 (mkF m 57 Ls1 [(.ref a_CCITT_T6)]) t → S0 t := fun t k => p40 t (st41 t k)
     let Ls43 : Array Slot := #[.val (.int i0), .val (.int ((i0 &&& (2147483647 : Int32)) % (10 : Int32))), .val (.ref a_CCITT_T6), .unset, .unset]
     let Ls44 : Array Slot := #[.val (.int i0), .val (.int ((i0 &&& (2147483647 : Int32)) % (10 : Int32))), .val (.ref a_CCITT_T6), .val (.int (0 : Int32)), .unset]
     have p45 : ∀ t, St p e below T41 (mkF m 143 Ls44 [(.ref a_CCITT_T6)]) t → S0 t := fun t k => p42 t (by
       show St p e below T41 (mkF m 57 Ls1 [(.ref a_CCITT_T6)]) t
       refine XS.astoreN X41.here hx rfl (hb hby at_57) rfl rfl (l' := Ls43) rfl ?_
       show St p e below T41 (mkF m 58 Ls43 []) t
       refine XT.iconstV X41.here hx rfl (0 : Int32) (hb hby at_58) (by decide) ?_
       show St p e below T41 (mkF m 59 Ls43 [(.int (0 : Int32))]) t
       refine XS.istoreN X41.here hx rfl (hb hby at_59) rfl (l' := Ls44) rfl ?_
       show St p e below T41 (mkF m 60 Ls44 []) t
       refine XS.goto X41.here hx rfl (pc0 := 60) (pc' := 142) rfl (hb hby at_60) (by decide) (by decide) ?_
       show St p e below T41 (mkF m 142 Ls44 []) t
       refine XS.aloadN X41.here hx rfl (hb hby at_142) rfl rfl ?_
       exact k)
     obtain ⟨cqc46, kqc46, qc46a, qc46b, qc46c⟩ := isOf hZ e41 (Ea_CCITT_T6.ext O0.2)
     obtain ⟨_, _, ⟨Tc46, Lc46, kc46, nc46⟩, -, Xc46, ⟨Lcc46, hQc46, lc46, yc46, zc46⟩, stc46⟩ := X41.virtualBack hx (y := M0) (z := M0) hown (mvT hZ (ww hw 4 rfl)) (mvT hZ (ww hw 5 rfl)) (notFace_of_selects (args := #[]) (mvT hZ (ww hw 7 rfl))) (mvT hZ (ww hw 7 rfl)) (mvT hZ (ww hw 6 rfl)) (by decide) (backOf (W := 0) (rm1_3 l Z a0 hw [] a_NONE a_LZW a_ZLIB a_DEFLATE a_CCITT_T6 a_CCITT_RLE a_CCITT_T4 a_PACKBITS a_OLD_JPEG a_JPEG h0 n0 O0 HE' ) hZ (ww hw 8 rfl) (ww hw 2 rfl) (by decide) (by decide)) qc46a qc46c (g := (mkF m 143 Ls44 [(.ref a_CCITT_T6)])) rfl (by rw [hml]; rfl) (Steps.refl _) (argsL := []) (rest := []) (lenOf pd0 rfl) rfl (by show 2 * 0 + _ ≤ _; exact Nat.le_of_eq rfl) (hb hby at_143) (fun _ _ => ⟨rfl, e41, (by decide : 0 + 0 ≤ _), (by decide : 0 + 0 ≤ _)⟩)
     dsimp only [Pt.U, Pt.locs, Pt.cells, Pt.slots] at Xc46 lc46 yc46 zc46 stc46 hQc46
     subst lc46 yc46 zc46
     obtain ⟨Nqc46, ec46, hAc46⟩ := hQc46
     have Nc46 := Fr.app N0 Nqc46
     obtain rfl := hAc46
     have p47 : ∀ t, St p e below Tc46 (mkF m 146 Ls44 [(.int (0 : Int32))]) t → S0 t := fun t k => p45 t (stc46.trans k)
     let Ls48 : Array Slot := #[.val (.int i0), .val (.int ((i0 &&& (2147483647 : Int32)) % (10 : Int32))), .val (.ref a_CCITT_T6), .val (.int (0 : Int32)), .val (.int (0 : Int32))]
     have p49 : ∀ t, St p e below Tc46 (mkF m 171 Ls48 [(.int (1 : Int32))]) t → S0 t := fun t k => p47 t (by
       show St p e below Tc46 (mkF m 146 Ls44 [(.int (0 : Int32))]) t
       refine XS.istore Xc46.here hx rfl (hb hby at_146) rfl (l' := Ls48) rfl ?_
       show St p e below Tc46 (mkF m 148 Ls48 []) t
       refine XS.iload Xc46.here hx rfl (hb hby at_148) rfl ?_
       show St p e below Tc46 (mkF m 150 Ls48 [(.int (0 : Int32))]) t
       refine XS.iloadN Xc46.here hx rfl (hb hby at_150) rfl ?_
       show St p e below Tc46 (mkF m 151 Ls48 [(.int (0 : Int32)), (.int (0 : Int32))]) t
       refine XS.icmpNo Xc46.here hx rfl (hb hby at_151) rfl (teq (by decide : (0 : Int32) = (0 : Int32))).2 ?_
       show St p e below Tc46 (mkF m 154 Ls48 []) t
       refine XS.iload Xc46.here hx rfl (hb hby at_154) rfl ?_
       show St p e below Tc46 (mkF m 156 Ls48 [(.int (0 : Int32))]) t
       refine XS.ifYes Xc46.here hx rfl (pc0 := 156) (pc' := 166) rfl (hb hby at_156) rfl ((if0 _ _).trans (teq (by decide : (0 : Int32) = (0 : Int32))).1) (by decide) (by decide) ?_
       show St p e below Tc46 (mkF m 166 Ls48 []) t
       refine XT.iconstV Xc46.here hx rfl (1 : Int32) (hb hby at_166) (by decide) ?_
       show St p e below Tc46 (mkF m 167 Ls48 [(.int (1 : Int32))]) t
       refine XS.goto Xc46.here hx rfl (pc0 := 167) (pc' := 171) rfl (hb hby at_167) (by decide) (by decide) ?_
       exact k)
     obtain ⟨fs, hr, hrun, hended, hW, hsame⟩ := Xc46.leave (v := some (.int (1 : Int32))) (fun h => by rw [Bd.returns] at h; cases h)
     refine ⟨_, _, p49 _ ?_, hrun, hended, _, _, rfl, ?_, ⟨_, rfl⟩, hW, hsame.mono (by decide) (by decide)⟩
     · exact retOut Xc46 hx Bd.returns rfl (Or.inl ⟨rfl, by simp, _, rfl⟩) (hb hby at_171) hr
     · exact ⟨rfl, Nc46⟩
    ·
     have p50 : ∀ t, St p e below s₁ (mkF m 65 Ls1 [(.int (4 : Int32)), (.int ((i0 &&& (2147483647 : Int32)) % (10 : Int32)))]) t → S0 t := fun t k => p38 t (by
       show St p e below s₁ (mkF m 51 Ls1 [(.int (3 : Int32)), (.int ((i0 &&& (2147483647 : Int32)) % (10 : Int32)))]) t
       refine XS.icmpYes X0.here hx rfl (pc0 := 51) (pc' := 63) rfl (hb hby at_51) rfl (feq g39).2 (by decide) (by decide) ?_
       show St p e below s₁ (mkF m 63 Ls1 []) t
       refine XS.iloadN X0.here hx rfl (hb hby at_63) rfl ?_
       show St p e below s₁ (mkF m 64 Ls1 [(.int ((i0 &&& (2147483647 : Int32)) % (10 : Int32)))]) t
       refine XT.iconstV X0.here hx rfl (4 : Int32) (hb hby at_64) (by decide) ?_
       exact k)
     by_cases g51 : ((i0 &&& (2147483647 : Int32)) % (10 : Int32)) = (4 : Int32)
     ·
      have p52 : ∀ t, St p e below s₁ (mkF m 68 Ls1 []) t → S0 t := fun t k => p50 t (by
        show St p e below s₁ (mkF m 65 Ls1 [(.int (4 : Int32)), (.int ((i0 &&& (2147483647 : Int32)) % (10 : Int32)))]) t
        refine XS.icmpNo X0.here hx rfl (hb hby at_65) rfl (teq g51).2 ?_
        exact k)
      obtain ⟨T53, X53, e53, st53⟩ := getS2 X0 hx hZ hown (host := "") (Or.inl (ww hw 19 rfl)) Via.refl e0 (Sa_LZW.ext O0.2) (g := (mkF m 68 Ls1 [])) rfl (hb hby at_68)
      have p54 : ∀ t, St p e below T53 (mkF m 71 Ls1 [(.ref a_LZW)]) t → S0 t := fun t k => p52 t (st53 t k)
      let Ls55 : Array Slot := #[.val (.int i0), .val (.int ((i0 &&& (2147483647 : Int32)) % (10 : Int32))), .val (.ref a_LZW), .unset, .unset]
      let Ls56 : Array Slot := #[.val (.int i0), .val (.int ((i0 &&& (2147483647 : Int32)) % (10 : Int32))), .val (.ref a_LZW), .val (.int (1 : Int32)), .unset]
      have p57 : ∀ t, St p e below T53 (mkF m 143 Ls56 [(.ref a_LZW)]) t → S0 t := fun t k => p54 t (by
        show St p e below T53 (mkF m 71 Ls1 [(.ref a_LZW)]) t
        refine XS.astoreN X53.here hx rfl (hb hby at_71) rfl rfl (l' := Ls55) rfl ?_
        show St p e below T53 (mkF m 72 Ls55 []) t
        refine XT.iconstV X53.here hx rfl (1 : Int32) (hb hby at_72) (by decide) ?_
        show St p e below T53 (mkF m 73 Ls55 [(.int (1 : Int32))]) t
        refine XS.istoreN X53.here hx rfl (hb hby at_73) rfl (l' := Ls56) rfl ?_
        show St p e below T53 (mkF m 74 Ls56 []) t
        refine XS.goto X53.here hx rfl (pc0 := 74) (pc' := 142) rfl (hb hby at_74) (by decide) (by decide) ?_
        show St p e below T53 (mkF m 142 Ls56 []) t
        refine XS.aloadN X53.here hx rfl (hb hby at_142) rfl rfl ?_
        exact k)
      obtain ⟨cqc58, kqc58, qc58a, qc58b, qc58c⟩ := isOf hZ e53 (Ea_LZW.ext O0.2)
      obtain ⟨_, _, ⟨Tc58, Lc58, kc58, nc58⟩, -, Xc58, ⟨Lcc58, hQc58, lc58, yc58, zc58⟩, stc58⟩ := X53.virtualBack hx (y := M0) (z := M0) hown (mvT hZ (ww hw 4 rfl)) (mvT hZ (ww hw 5 rfl)) (notFace_of_selects (args := #[]) (mvT hZ (ww hw 7 rfl))) (mvT hZ (ww hw 7 rfl)) (mvT hZ (ww hw 6 rfl)) (by decide) (backOf (W := 0) (rm1_4 l Z a0 hw [] a_NONE a_LZW a_ZLIB a_DEFLATE a_CCITT_T6 a_CCITT_RLE a_CCITT_T4 a_PACKBITS a_OLD_JPEG a_JPEG h0 n0 O0 HE' ) hZ (ww hw 8 rfl) (ww hw 2 rfl) (by decide) (by decide)) qc58a qc58c (g := (mkF m 143 Ls56 [(.ref a_LZW)])) rfl (by rw [hml]; rfl) (Steps.refl _) (argsL := []) (rest := []) (lenOf pd0 rfl) rfl (by show 2 * 0 + _ ≤ _; exact Nat.le_of_eq rfl) (hb hby at_143) (fun _ _ => ⟨rfl, e53, (by decide : 0 + 0 ≤ _), (by decide : 0 + 0 ≤ _)⟩)
      dsimp only [Pt.U, Pt.locs, Pt.cells, Pt.slots] at Xc58 lc58 yc58 zc58 stc58 hQc58
      subst lc58 yc58 zc58
      obtain ⟨Nqc58, ec58, hAc58⟩ := hQc58
      have Nc58 := Fr.app N0 Nqc58
      obtain rfl := hAc58
      have p59 : ∀ t, St p e below Tc58 (mkF m 146 Ls56 [(.int (1 : Int32))]) t → S0 t := fun t k => p57 t (stc58.trans k)
      let Ls60 : Array Slot := #[.val (.int i0), .val (.int ((i0 &&& (2147483647 : Int32)) % (10 : Int32))), .val (.ref a_LZW), .val (.int (1 : Int32)), .val (.int (1 : Int32))]
      have p61 : ∀ t, St p e below Tc58 (mkF m 160 Ls60 [(.ref a_LZW)]) t → S0 t := fun t k => p59 t (by
        show St p e below Tc58 (mkF m 146 Ls56 [(.int (1 : Int32))]) t
        refine XS.istore Xc58.here hx rfl (hb hby at_146) rfl (l' := Ls60) rfl ?_
        show St p e below Tc58 (mkF m 148 Ls60 []) t
        refine XS.iload Xc58.here hx rfl (hb hby at_148) rfl ?_
        show St p e below Tc58 (mkF m 150 Ls60 [(.int (1 : Int32))]) t
        refine XS.iloadN Xc58.here hx rfl (hb hby at_150) rfl ?_
        show St p e below Tc58 (mkF m 151 Ls60 [(.int (1 : Int32)), (.int (1 : Int32))]) t
        refine XS.icmpNo Xc58.here hx rfl (hb hby at_151) rfl (teq (by decide : (1 : Int32) = (1 : Int32))).2 ?_
        show St p e below Tc58 (mkF m 154 Ls60 []) t
        refine XS.iload Xc58.here hx rfl (hb hby at_154) rfl ?_
        show St p e below Tc58 (mkF m 156 Ls60 [(.int (1 : Int32))]) t
        refine XS.ifNo Xc58.here hx rfl (hb hby at_156) rfl ((if0 _ _).trans (feq (by decide : ¬ ((1 : Int32) = (0 : Int32)))).1) ?_
        show St p e below Tc58 (mkF m 159 Ls60 []) t
        refine XS.aloadN Xc58.here hx rfl (hb hby at_159) rfl rfl ?_
        exact k)
      obtain ⟨cqc62, kqc62, qc62a, qc62b, qc62c⟩ := isOf hZ ec58 (Ea_LZW.ext O0.2)
      obtain ⟨_, _, ⟨Tc62, Lc62, kc62, nc62⟩, -, Xc62, ⟨Lcc62, hQc62, lc62, yc62, zc62⟩, stc62⟩ := Xc58.virtualBack hx (y := M3) (z := M3) hown (mvT hZ (ww hw 20 rfl)) (mvT hZ (ww hw 21 rfl)) (notFace_of_selects (args := #[]) (mvT hZ (ww hw 23 rfl))) (mvT hZ (ww hw 23 rfl)) (mvT hZ (ww hw 22 rfl)) (by decide) (backOf (W := 0) (rm2_5 l Z a0 hw [] a_NONE a_LZW a_ZLIB a_DEFLATE a_CCITT_T6 a_CCITT_RLE a_CCITT_T4 a_PACKBITS a_OLD_JPEG a_JPEG h0 n0 O0 HE' ) hZ (ww hw 24 rfl) (ww hw 2 rfl) (by decide) (by decide)) qc62a qc62c (g := (mkF m 160 Ls60 [(.ref a_LZW)])) rfl (by rw [hml]; rfl) (Steps.refl _) (argsL := []) (rest := []) (lenOf pd0 rfl) rfl (by show 2 * 0 + _ ≤ _; exact Nat.le_of_eq rfl) (hb hby at_160) (fun _ _ => ⟨rfl, ec58, (by decide : 0 + 0 ≤ _), (by decide : 0 + 0 ≤ _)⟩)
      dsimp only [Pt.U, Pt.locs, Pt.cells, Pt.slots] at Xc62 lc62 yc62 zc62 stc62 hQc62
      subst lc62 yc62 zc62
      obtain ⟨Nqc62, ec62, hAc62⟩ := hQc62
      have Nc62 := Fr.app Nc58 Nqc62
      obtain rfl := hAc62
      have p63 : ∀ t, St p e below Tc62 (mkF m 163 Ls60 [(.int (1 : Int32))]) t → S0 t := fun t k => p61 t (stc62.trans k)
      have p64 : ∀ t, St p e below Tc62 (mkF m 171 Ls60 [(.int (1 : Int32))]) t → S0 t := fun t k => p63 t (by
        show St p e below Tc62 (mkF m 163 Ls60 [(.int (1 : Int32))]) t
        refine XS.ifNo Xc62.here hx rfl (hb hby at_163) rfl ((if0 _ _).trans (feq (by decide : ¬ ((1 : Int32) = (0 : Int32)))).1) ?_
        show St p e below Tc62 (mkF m 166 Ls60 []) t
        refine XT.iconstV Xc62.here hx rfl (1 : Int32) (hb hby at_166) (by decide) ?_
        show St p e below Tc62 (mkF m 167 Ls60 [(.int (1 : Int32))]) t
        refine XS.goto Xc62.here hx rfl (pc0 := 167) (pc' := 171) rfl (hb hby at_167) (by decide) (by decide) ?_
        exact k)
      obtain ⟨fs, hr, hrun, hended, hW, hsame⟩ := Xc62.leave (v := some (.int (1 : Int32))) (fun h => by rw [Bd.returns] at h; cases h)
      refine ⟨_, _, p64 _ ?_, hrun, hended, _, _, rfl, ?_, ⟨_, rfl⟩, hW, hsame.mono (by decide) (by decide)⟩
      · exact retOut Xc62 hx Bd.returns rfl (Or.inl ⟨rfl, by simp, _, rfl⟩) (hb hby at_171) hr
      · exact ⟨rfl, Nc62⟩
     ·
      have p65 : ∀ t, St p e below s₁ (mkF m 79 Ls1 [(.int (5 : Int32)), (.int ((i0 &&& (2147483647 : Int32)) % (10 : Int32)))]) t → S0 t := fun t k => p50 t (by
        show St p e below s₁ (mkF m 65 Ls1 [(.int (4 : Int32)), (.int ((i0 &&& (2147483647 : Int32)) % (10 : Int32)))]) t
        refine XS.icmpYes X0.here hx rfl (pc0 := 65) (pc' := 77) rfl (hb hby at_65) rfl (feq g51).2 (by decide) (by decide) ?_
        show St p e below s₁ (mkF m 77 Ls1 []) t
        refine XS.iloadN X0.here hx rfl (hb hby at_77) rfl ?_
        show St p e below s₁ (mkF m 78 Ls1 [(.int ((i0 &&& (2147483647 : Int32)) % (10 : Int32)))]) t
        refine XT.iconstV X0.here hx rfl (5 : Int32) (hb hby at_78) (by decide) ?_
        exact k)
      by_cases g66 : ((i0 &&& (2147483647 : Int32)) % (10 : Int32)) = (5 : Int32)
      ·
       have p67 : ∀ t, St p e below s₁ (mkF m 82 Ls1 []) t → S0 t := fun t k => p65 t (by
         show St p e below s₁ (mkF m 79 Ls1 [(.int (5 : Int32)), (.int ((i0 &&& (2147483647 : Int32)) % (10 : Int32)))]) t
         refine XS.icmpNo X0.here hx rfl (hb hby at_79) rfl (teq g66).2 ?_
         exact k)
       obtain ⟨T68, X68, e68, st68⟩ := getS2 X0 hx hZ hown (host := "") (Or.inl (ww hw 40 rfl)) Via.refl e0 (Sa_OLD_JPEG.ext O0.2) (g := (mkF m 82 Ls1 [])) rfl (hb hby at_82)
       have p69 : ∀ t, St p e below T68 (mkF m 85 Ls1 [(.ref a_OLD_JPEG)]) t → S0 t := fun t k => p67 t (st68 t k)
       let Ls70 : Array Slot := #[.val (.int i0), .val (.int ((i0 &&& (2147483647 : Int32)) % (10 : Int32))), .val (.ref a_OLD_JPEG), .unset, .unset]
       let Ls71 : Array Slot := #[.val (.int i0), .val (.int ((i0 &&& (2147483647 : Int32)) % (10 : Int32))), .val (.ref a_OLD_JPEG), .val (.int (0 : Int32)), .unset]
       have p72 : ∀ t, St p e below T68 (mkF m 143 Ls71 [(.ref a_OLD_JPEG)]) t → S0 t := fun t k => p69 t (by
         show St p e below T68 (mkF m 85 Ls1 [(.ref a_OLD_JPEG)]) t
         refine XS.astoreN X68.here hx rfl (hb hby at_85) rfl rfl (l' := Ls70) rfl ?_
         show St p e below T68 (mkF m 86 Ls70 []) t
         refine XT.iconstV X68.here hx rfl (0 : Int32) (hb hby at_86) (by decide) ?_
         show St p e below T68 (mkF m 87 Ls70 [(.int (0 : Int32))]) t
         refine XS.istoreN X68.here hx rfl (hb hby at_87) rfl (l' := Ls71) rfl ?_
         show St p e below T68 (mkF m 88 Ls71 []) t
         refine XS.goto X68.here hx rfl (pc0 := 88) (pc' := 142) rfl (hb hby at_88) (by decide) (by decide) ?_
         show St p e below T68 (mkF m 142 Ls71 []) t
         refine XS.aloadN X68.here hx rfl (hb hby at_142) rfl rfl ?_
         exact k)
       obtain ⟨cqc73, kqc73, qc73a, qc73b, qc73c⟩ := isOf hZ e68 (Ea_OLD_JPEG.ext O0.2)
       obtain ⟨_, _, ⟨Tc73, Lc73, kc73, nc73⟩, -, Xc73, ⟨Lcc73, hQc73, lc73, yc73, zc73⟩, stc73⟩ := X68.virtualBack hx (y := M0) (z := M0) hown (mvT hZ (ww hw 4 rfl)) (mvT hZ (ww hw 5 rfl)) (notFace_of_selects (args := #[]) (mvT hZ (ww hw 7 rfl))) (mvT hZ (ww hw 7 rfl)) (mvT hZ (ww hw 6 rfl)) (by decide) (backOf (W := 0) (rm1_7 l Z a0 hw [] a_NONE a_LZW a_ZLIB a_DEFLATE a_CCITT_T6 a_CCITT_RLE a_CCITT_T4 a_PACKBITS a_OLD_JPEG a_JPEG h0 n0 O0 HE' ) hZ (ww hw 8 rfl) (ww hw 2 rfl) (by decide) (by decide)) qc73a qc73c (g := (mkF m 143 Ls71 [(.ref a_OLD_JPEG)])) rfl (by rw [hml]; rfl) (Steps.refl _) (argsL := []) (rest := []) (lenOf pd0 rfl) rfl (by show 2 * 0 + _ ≤ _; exact Nat.le_of_eq rfl) (hb hby at_143) (fun _ _ => ⟨rfl, e68, (by decide : 0 + 0 ≤ _), (by decide : 0 + 0 ≤ _)⟩)
       dsimp only [Pt.U, Pt.locs, Pt.cells, Pt.slots] at Xc73 lc73 yc73 zc73 stc73 hQc73
       subst lc73 yc73 zc73
       obtain ⟨Nqc73, ec73, hAc73⟩ := hQc73
       have Nc73 := Fr.app N0 Nqc73
       obtain rfl := hAc73
       have p74 : ∀ t, St p e below Tc73 (mkF m 146 Ls71 [(.int (0 : Int32))]) t → S0 t := fun t k => p72 t (stc73.trans k)
       let Ls75 : Array Slot := #[.val (.int i0), .val (.int ((i0 &&& (2147483647 : Int32)) % (10 : Int32))), .val (.ref a_OLD_JPEG), .val (.int (0 : Int32)), .val (.int (0 : Int32))]
       have p76 : ∀ t, St p e below Tc73 (mkF m 171 Ls75 [(.int (1 : Int32))]) t → S0 t := fun t k => p74 t (by
         show St p e below Tc73 (mkF m 146 Ls71 [(.int (0 : Int32))]) t
         refine XS.istore Xc73.here hx rfl (hb hby at_146) rfl (l' := Ls75) rfl ?_
         show St p e below Tc73 (mkF m 148 Ls75 []) t
         refine XS.iload Xc73.here hx rfl (hb hby at_148) rfl ?_
         show St p e below Tc73 (mkF m 150 Ls75 [(.int (0 : Int32))]) t
         refine XS.iloadN Xc73.here hx rfl (hb hby at_150) rfl ?_
         show St p e below Tc73 (mkF m 151 Ls75 [(.int (0 : Int32)), (.int (0 : Int32))]) t
         refine XS.icmpNo Xc73.here hx rfl (hb hby at_151) rfl (teq (by decide : (0 : Int32) = (0 : Int32))).2 ?_
         show St p e below Tc73 (mkF m 154 Ls75 []) t
         refine XS.iload Xc73.here hx rfl (hb hby at_154) rfl ?_
         show St p e below Tc73 (mkF m 156 Ls75 [(.int (0 : Int32))]) t
         refine XS.ifYes Xc73.here hx rfl (pc0 := 156) (pc' := 166) rfl (hb hby at_156) rfl ((if0 _ _).trans (teq (by decide : (0 : Int32) = (0 : Int32))).1) (by decide) (by decide) ?_
         show St p e below Tc73 (mkF m 166 Ls75 []) t
         refine XT.iconstV Xc73.here hx rfl (1 : Int32) (hb hby at_166) (by decide) ?_
         show St p e below Tc73 (mkF m 167 Ls75 [(.int (1 : Int32))]) t
         refine XS.goto Xc73.here hx rfl (pc0 := 167) (pc' := 171) rfl (hb hby at_167) (by decide) (by decide) ?_
         exact k)
       obtain ⟨fs, hr, hrun, hended, hW, hsame⟩ := Xc73.leave (v := some (.int (1 : Int32))) (fun h => by rw [Bd.returns] at h; cases h)
       refine ⟨_, _, p76 _ ?_, hrun, hended, _, _, rfl, ?_, ⟨_, rfl⟩, hW, hsame.mono (by decide) (by decide)⟩
       · exact retOut Xc73 hx Bd.returns rfl (Or.inl ⟨rfl, by simp, _, rfl⟩) (hb hby at_171) hr
       · exact ⟨rfl, Nc73⟩
      ·
       have p77 : ∀ t, St p e below s₁ (mkF m 94 Ls1 [(.int (6 : Int32)), (.int ((i0 &&& (2147483647 : Int32)) % (10 : Int32)))]) t → S0 t := fun t k => p65 t (by
         show St p e below s₁ (mkF m 79 Ls1 [(.int (5 : Int32)), (.int ((i0 &&& (2147483647 : Int32)) % (10 : Int32)))]) t
         refine XS.icmpYes X0.here hx rfl (pc0 := 79) (pc' := 91) rfl (hb hby at_79) rfl (feq g66).2 (by decide) (by decide) ?_
         show St p e below s₁ (mkF m 91 Ls1 []) t
         refine XS.iloadN X0.here hx rfl (hb hby at_91) rfl ?_
         show St p e below s₁ (mkF m 92 Ls1 [(.int ((i0 &&& (2147483647 : Int32)) % (10 : Int32)))]) t
         refine XT.bipushV X0.here hx rfl (6 : Int32) (hb hby at_92) (by decide) ?_
         exact k)
       by_cases g78 : ((i0 &&& (2147483647 : Int32)) % (10 : Int32)) = (6 : Int32)
       ·
        have p79 : ∀ t, St p e below s₁ (mkF m 97 Ls1 []) t → S0 t := fun t k => p77 t (by
          show St p e below s₁ (mkF m 94 Ls1 [(.int (6 : Int32)), (.int ((i0 &&& (2147483647 : Int32)) % (10 : Int32)))]) t
          refine XS.icmpNo X0.here hx rfl (hb hby at_94) rfl (teq g78).2 ?_
          exact k)
        obtain ⟨T80, X80, e80, st80⟩ := getS2 X0 hx hZ hown (host := "") (Or.inl (ww hw 42 rfl)) Via.refl e0 (Sa_JPEG.ext O0.2) (g := (mkF m 97 Ls1 [])) rfl (hb hby at_97)
        have p81 : ∀ t, St p e below T80 (mkF m 100 Ls1 [(.ref a_JPEG)]) t → S0 t := fun t k => p79 t (st80 t k)
        let Ls82 : Array Slot := #[.val (.int i0), .val (.int ((i0 &&& (2147483647 : Int32)) % (10 : Int32))), .val (.ref a_JPEG), .unset, .unset]
        let Ls83 : Array Slot := #[.val (.int i0), .val (.int ((i0 &&& (2147483647 : Int32)) % (10 : Int32))), .val (.ref a_JPEG), .val (.int (0 : Int32)), .unset]
        have p84 : ∀ t, St p e below T80 (mkF m 143 Ls83 [(.ref a_JPEG)]) t → S0 t := fun t k => p81 t (by
          show St p e below T80 (mkF m 100 Ls1 [(.ref a_JPEG)]) t
          refine XS.astoreN X80.here hx rfl (hb hby at_100) rfl rfl (l' := Ls82) rfl ?_
          show St p e below T80 (mkF m 101 Ls82 []) t
          refine XT.iconstV X80.here hx rfl (0 : Int32) (hb hby at_101) (by decide) ?_
          show St p e below T80 (mkF m 102 Ls82 [(.int (0 : Int32))]) t
          refine XS.istoreN X80.here hx rfl (hb hby at_102) rfl (l' := Ls83) rfl ?_
          show St p e below T80 (mkF m 103 Ls83 []) t
          refine XS.goto X80.here hx rfl (pc0 := 103) (pc' := 142) rfl (hb hby at_103) (by decide) (by decide) ?_
          show St p e below T80 (mkF m 142 Ls83 []) t
          refine XS.aloadN X80.here hx rfl (hb hby at_142) rfl rfl ?_
          exact k)
        obtain ⟨cqc85, kqc85, qc85a, qc85b, qc85c⟩ := isOf hZ e80 (Ea_JPEG.ext O0.2)
        obtain ⟨_, _, ⟨Tc85, Lc85, kc85, nc85⟩, -, Xc85, ⟨Lcc85, hQc85, lc85, yc85, zc85⟩, stc85⟩ := X80.virtualBack hx (y := M0) (z := M0) hown (mvT hZ (ww hw 4 rfl)) (mvT hZ (ww hw 5 rfl)) (notFace_of_selects (args := #[]) (mvT hZ (ww hw 7 rfl))) (mvT hZ (ww hw 7 rfl)) (mvT hZ (ww hw 6 rfl)) (by decide) (backOf (W := 0) (rm1_8 l Z a0 hw [] a_NONE a_LZW a_ZLIB a_DEFLATE a_CCITT_T6 a_CCITT_RLE a_CCITT_T4 a_PACKBITS a_OLD_JPEG a_JPEG h0 n0 O0 HE' ) hZ (ww hw 8 rfl) (ww hw 2 rfl) (by decide) (by decide)) qc85a qc85c (g := (mkF m 143 Ls83 [(.ref a_JPEG)])) rfl (by rw [hml]; rfl) (Steps.refl _) (argsL := []) (rest := []) (lenOf pd0 rfl) rfl (by show 2 * 0 + _ ≤ _; exact Nat.le_of_eq rfl) (hb hby at_143) (fun _ _ => ⟨rfl, e80, (by decide : 0 + 0 ≤ _), (by decide : 0 + 0 ≤ _)⟩)
        dsimp only [Pt.U, Pt.locs, Pt.cells, Pt.slots] at Xc85 lc85 yc85 zc85 stc85 hQc85
        subst lc85 yc85 zc85
        obtain ⟨Nqc85, ec85, hAc85⟩ := hQc85
        have Nc85 := Fr.app N0 Nqc85
        obtain rfl := hAc85
        have p86 : ∀ t, St p e below Tc85 (mkF m 146 Ls83 [(.int (0 : Int32))]) t → S0 t := fun t k => p84 t (stc85.trans k)
        let Ls87 : Array Slot := #[.val (.int i0), .val (.int ((i0 &&& (2147483647 : Int32)) % (10 : Int32))), .val (.ref a_JPEG), .val (.int (0 : Int32)), .val (.int (0 : Int32))]
        have p88 : ∀ t, St p e below Tc85 (mkF m 171 Ls87 [(.int (1 : Int32))]) t → S0 t := fun t k => p86 t (by
          show St p e below Tc85 (mkF m 146 Ls83 [(.int (0 : Int32))]) t
          refine XS.istore Xc85.here hx rfl (hb hby at_146) rfl (l' := Ls87) rfl ?_
          show St p e below Tc85 (mkF m 148 Ls87 []) t
          refine XS.iload Xc85.here hx rfl (hb hby at_148) rfl ?_
          show St p e below Tc85 (mkF m 150 Ls87 [(.int (0 : Int32))]) t
          refine XS.iloadN Xc85.here hx rfl (hb hby at_150) rfl ?_
          show St p e below Tc85 (mkF m 151 Ls87 [(.int (0 : Int32)), (.int (0 : Int32))]) t
          refine XS.icmpNo Xc85.here hx rfl (hb hby at_151) rfl (teq (by decide : (0 : Int32) = (0 : Int32))).2 ?_
          show St p e below Tc85 (mkF m 154 Ls87 []) t
          refine XS.iload Xc85.here hx rfl (hb hby at_154) rfl ?_
          show St p e below Tc85 (mkF m 156 Ls87 [(.int (0 : Int32))]) t
          refine XS.ifYes Xc85.here hx rfl (pc0 := 156) (pc' := 166) rfl (hb hby at_156) rfl ((if0 _ _).trans (teq (by decide : (0 : Int32) = (0 : Int32))).1) (by decide) (by decide) ?_
          show St p e below Tc85 (mkF m 166 Ls87 []) t
          refine XT.iconstV Xc85.here hx rfl (1 : Int32) (hb hby at_166) (by decide) ?_
          show St p e below Tc85 (mkF m 167 Ls87 [(.int (1 : Int32))]) t
          refine XS.goto Xc85.here hx rfl (pc0 := 167) (pc' := 171) rfl (hb hby at_167) (by decide) (by decide) ?_
          exact k)
        obtain ⟨fs, hr, hrun, hended, hW, hsame⟩ := Xc85.leave (v := some (.int (1 : Int32))) (fun h => by rw [Bd.returns] at h; cases h)
        refine ⟨_, _, p88 _ ?_, hrun, hended, _, _, rfl, ?_, ⟨_, rfl⟩, hW, hsame.mono (by decide) (by decide)⟩
        · exact retOut Xc85 hx Bd.returns rfl (Or.inl ⟨rfl, by simp, _, rfl⟩) (hb hby at_171) hr
        · exact ⟨rfl, Nc85⟩
       ·
        have p89 : ∀ t, St p e below s₁ (mkF m 109 Ls1 [(.int (7 : Int32)), (.int ((i0 &&& (2147483647 : Int32)) % (10 : Int32)))]) t → S0 t := fun t k => p77 t (by
          show St p e below s₁ (mkF m 94 Ls1 [(.int (6 : Int32)), (.int ((i0 &&& (2147483647 : Int32)) % (10 : Int32)))]) t
          refine XS.icmpYes X0.here hx rfl (pc0 := 94) (pc' := 106) rfl (hb hby at_94) rfl (feq g78).2 (by decide) (by decide) ?_
          show St p e below s₁ (mkF m 106 Ls1 []) t
          refine XS.iloadN X0.here hx rfl (hb hby at_106) rfl ?_
          show St p e below s₁ (mkF m 107 Ls1 [(.int ((i0 &&& (2147483647 : Int32)) % (10 : Int32)))]) t
          refine XT.bipushV X0.here hx rfl (7 : Int32) (hb hby at_107) (by decide) ?_
          exact k)
        by_cases g90 : ((i0 &&& (2147483647 : Int32)) % (10 : Int32)) = (7 : Int32)
        ·
         have p91 : ∀ t, St p e below s₁ (mkF m 112 Ls1 []) t → S0 t := fun t k => p89 t (by
           show St p e below s₁ (mkF m 109 Ls1 [(.int (7 : Int32)), (.int ((i0 &&& (2147483647 : Int32)) % (10 : Int32)))]) t
           refine XS.icmpNo X0.here hx rfl (hb hby at_109) rfl (teq g90).2 ?_
           exact k)
         obtain ⟨T92, X92, e92, st92⟩ := getS2 X0 hx hZ hown (host := "") (Or.inl (ww hw 34 rfl)) Via.refl e0 (Sa_ZLIB.ext O0.2) (g := (mkF m 112 Ls1 [])) rfl (hb hby at_112)
         have p93 : ∀ t, St p e below T92 (mkF m 115 Ls1 [(.ref a_ZLIB)]) t → S0 t := fun t k => p91 t (st92 t k)
         let Ls94 : Array Slot := #[.val (.int i0), .val (.int ((i0 &&& (2147483647 : Int32)) % (10 : Int32))), .val (.ref a_ZLIB), .unset, .unset]
         let Ls95 : Array Slot := #[.val (.int i0), .val (.int ((i0 &&& (2147483647 : Int32)) % (10 : Int32))), .val (.ref a_ZLIB), .val (.int (1 : Int32)), .unset]
         have p96 : ∀ t, St p e below T92 (mkF m 143 Ls95 [(.ref a_ZLIB)]) t → S0 t := fun t k => p93 t (by
           show St p e below T92 (mkF m 115 Ls1 [(.ref a_ZLIB)]) t
           refine XS.astoreN X92.here hx rfl (hb hby at_115) rfl rfl (l' := Ls94) rfl ?_
           show St p e below T92 (mkF m 116 Ls94 []) t
           refine XT.iconstV X92.here hx rfl (1 : Int32) (hb hby at_116) (by decide) ?_
           show St p e below T92 (mkF m 117 Ls94 [(.int (1 : Int32))]) t
           refine XS.istoreN X92.here hx rfl (hb hby at_117) rfl (l' := Ls95) rfl ?_
           show St p e below T92 (mkF m 118 Ls95 []) t
           refine XS.goto X92.here hx rfl (pc0 := 118) (pc' := 142) rfl (hb hby at_118) (by decide) (by decide) ?_
           show St p e below T92 (mkF m 142 Ls95 []) t
           refine XS.aloadN X92.here hx rfl (hb hby at_142) rfl rfl ?_
           exact k)
         obtain ⟨cqc97, kqc97, qc97a, qc97b, qc97c⟩ := isOf hZ e92 (Ea_ZLIB.ext O0.2)
         obtain ⟨_, _, ⟨Tc97, Lc97, kc97, nc97⟩, -, Xc97, ⟨Lcc97, hQc97, lc97, yc97, zc97⟩, stc97⟩ := X92.virtualBack hx (y := M0) (z := M0) hown (mvT hZ (ww hw 4 rfl)) (mvT hZ (ww hw 5 rfl)) (notFace_of_selects (args := #[]) (mvT hZ (ww hw 7 rfl))) (mvT hZ (ww hw 7 rfl)) (mvT hZ (ww hw 6 rfl)) (by decide) (backOf (W := 0) (rm1_9 l Z a0 hw [] a_NONE a_LZW a_ZLIB a_DEFLATE a_CCITT_T6 a_CCITT_RLE a_CCITT_T4 a_PACKBITS a_OLD_JPEG a_JPEG h0 n0 O0 HE' ) hZ (ww hw 8 rfl) (ww hw 2 rfl) (by decide) (by decide)) qc97a qc97c (g := (mkF m 143 Ls95 [(.ref a_ZLIB)])) rfl (by rw [hml]; rfl) (Steps.refl _) (argsL := []) (rest := []) (lenOf pd0 rfl) rfl (by show 2 * 0 + _ ≤ _; exact Nat.le_of_eq rfl) (hb hby at_143) (fun _ _ => ⟨rfl, e92, (by decide : 0 + 0 ≤ _), (by decide : 0 + 0 ≤ _)⟩)
         dsimp only [Pt.U, Pt.locs, Pt.cells, Pt.slots] at Xc97 lc97 yc97 zc97 stc97 hQc97
         subst lc97 yc97 zc97
         obtain ⟨Nqc97, ec97, hAc97⟩ := hQc97
         have Nc97 := Fr.app N0 Nqc97
         obtain rfl := hAc97
         have p98 : ∀ t, St p e below Tc97 (mkF m 146 Ls95 [(.int (1 : Int32))]) t → S0 t := fun t k => p96 t (stc97.trans k)
         let Ls99 : Array Slot := #[.val (.int i0), .val (.int ((i0 &&& (2147483647 : Int32)) % (10 : Int32))), .val (.ref a_ZLIB), .val (.int (1 : Int32)), .val (.int (1 : Int32))]
         have p100 : ∀ t, St p e below Tc97 (mkF m 160 Ls99 [(.ref a_ZLIB)]) t → S0 t := fun t k => p98 t (by
           show St p e below Tc97 (mkF m 146 Ls95 [(.int (1 : Int32))]) t
           refine XS.istore Xc97.here hx rfl (hb hby at_146) rfl (l' := Ls99) rfl ?_
           show St p e below Tc97 (mkF m 148 Ls99 []) t
           refine XS.iload Xc97.here hx rfl (hb hby at_148) rfl ?_
           show St p e below Tc97 (mkF m 150 Ls99 [(.int (1 : Int32))]) t
           refine XS.iloadN Xc97.here hx rfl (hb hby at_150) rfl ?_
           show St p e below Tc97 (mkF m 151 Ls99 [(.int (1 : Int32)), (.int (1 : Int32))]) t
           refine XS.icmpNo Xc97.here hx rfl (hb hby at_151) rfl (teq (by decide : (1 : Int32) = (1 : Int32))).2 ?_
           show St p e below Tc97 (mkF m 154 Ls99 []) t
           refine XS.iload Xc97.here hx rfl (hb hby at_154) rfl ?_
           show St p e below Tc97 (mkF m 156 Ls99 [(.int (1 : Int32))]) t
           refine XS.ifNo Xc97.here hx rfl (hb hby at_156) rfl ((if0 _ _).trans (feq (by decide : ¬ ((1 : Int32) = (0 : Int32)))).1) ?_
           show St p e below Tc97 (mkF m 159 Ls99 []) t
           refine XS.aloadN Xc97.here hx rfl (hb hby at_159) rfl rfl ?_
           exact k)
         obtain ⟨cqc101, kqc101, qc101a, qc101b, qc101c⟩ := isOf hZ ec97 (Ea_ZLIB.ext O0.2)
         obtain ⟨_, _, ⟨Tc101, Lc101, kc101, nc101⟩, -, Xc101, ⟨Lcc101, hQc101, lc101, yc101, zc101⟩, stc101⟩ := Xc97.virtualBack hx (y := M3) (z := M3) hown (mvT hZ (ww hw 20 rfl)) (mvT hZ (ww hw 21 rfl)) (notFace_of_selects (args := #[]) (mvT hZ (ww hw 23 rfl))) (mvT hZ (ww hw 23 rfl)) (mvT hZ (ww hw 22 rfl)) (by decide) (backOf (W := 0) (rm2_10 l Z a0 hw [] a_NONE a_LZW a_ZLIB a_DEFLATE a_CCITT_T6 a_CCITT_RLE a_CCITT_T4 a_PACKBITS a_OLD_JPEG a_JPEG h0 n0 O0 HE' ) hZ (ww hw 24 rfl) (ww hw 2 rfl) (by decide) (by decide)) qc101a qc101c (g := (mkF m 160 Ls99 [(.ref a_ZLIB)])) rfl (by rw [hml]; rfl) (Steps.refl _) (argsL := []) (rest := []) (lenOf pd0 rfl) rfl (by show 2 * 0 + _ ≤ _; exact Nat.le_of_eq rfl) (hb hby at_160) (fun _ _ => ⟨rfl, ec97, (by decide : 0 + 0 ≤ _), (by decide : 0 + 0 ≤ _)⟩)
         dsimp only [Pt.U, Pt.locs, Pt.cells, Pt.slots] at Xc101 lc101 yc101 zc101 stc101 hQc101
         subst lc101 yc101 zc101
         obtain ⟨Nqc101, ec101, hAc101⟩ := hQc101
         have Nc101 := Fr.app Nc97 Nqc101
         obtain rfl := hAc101
         have p102 : ∀ t, St p e below Tc101 (mkF m 163 Ls99 [(.int (1 : Int32))]) t → S0 t := fun t k => p100 t (stc101.trans k)
         have p103 : ∀ t, St p e below Tc101 (mkF m 171 Ls99 [(.int (1 : Int32))]) t → S0 t := fun t k => p102 t (by
           show St p e below Tc101 (mkF m 163 Ls99 [(.int (1 : Int32))]) t
           refine XS.ifNo Xc101.here hx rfl (hb hby at_163) rfl ((if0 _ _).trans (feq (by decide : ¬ ((1 : Int32) = (0 : Int32)))).1) ?_
           show St p e below Tc101 (mkF m 166 Ls99 []) t
           refine XT.iconstV Xc101.here hx rfl (1 : Int32) (hb hby at_166) (by decide) ?_
           show St p e below Tc101 (mkF m 167 Ls99 [(.int (1 : Int32))]) t
           refine XS.goto Xc101.here hx rfl (pc0 := 167) (pc' := 171) rfl (hb hby at_167) (by decide) (by decide) ?_
           exact k)
         obtain ⟨fs, hr, hrun, hended, hW, hsame⟩ := Xc101.leave (v := some (.int (1 : Int32))) (fun h => by rw [Bd.returns] at h; cases h)
         refine ⟨_, _, p103 _ ?_, hrun, hended, _, _, rfl, ?_, ⟨_, rfl⟩, hW, hsame.mono (by decide) (by decide)⟩
         · exact retOut Xc101 hx Bd.returns rfl (Or.inl ⟨rfl, by simp, _, rfl⟩) (hb hby at_171) hr
         · exact ⟨rfl, Nc101⟩
        ·
         have p104 : ∀ t, St p e below s₁ (mkF m 124 Ls1 [(.int (8 : Int32)), (.int ((i0 &&& (2147483647 : Int32)) % (10 : Int32)))]) t → S0 t := fun t k => p89 t (by
           show St p e below s₁ (mkF m 109 Ls1 [(.int (7 : Int32)), (.int ((i0 &&& (2147483647 : Int32)) % (10 : Int32)))]) t
           refine XS.icmpYes X0.here hx rfl (pc0 := 109) (pc' := 121) rfl (hb hby at_109) rfl (feq g90).2 (by decide) (by decide) ?_
           show St p e below s₁ (mkF m 121 Ls1 []) t
           refine XS.iloadN X0.here hx rfl (hb hby at_121) rfl ?_
           show St p e below s₁ (mkF m 122 Ls1 [(.int ((i0 &&& (2147483647 : Int32)) % (10 : Int32)))]) t
           refine XT.bipushV X0.here hx rfl (8 : Int32) (hb hby at_122) (by decide) ?_
           exact k)
         by_cases g105 : ((i0 &&& (2147483647 : Int32)) % (10 : Int32)) = (8 : Int32)
         ·
          have p106 : ∀ t, St p e below s₁ (mkF m 127 Ls1 []) t → S0 t := fun t k => p104 t (by
            show St p e below s₁ (mkF m 124 Ls1 [(.int (8 : Int32)), (.int ((i0 &&& (2147483647 : Int32)) % (10 : Int32)))]) t
            refine XS.icmpNo X0.here hx rfl (hb hby at_124) rfl (teq g105).2 ?_
            exact k)
          obtain ⟨T107, X107, e107, st107⟩ := getS2 X0 hx hZ hown (host := "") (Or.inl (ww hw 37 rfl)) Via.refl e0 (Sa_PACKBITS.ext O0.2) (g := (mkF m 127 Ls1 [])) rfl (hb hby at_127)
          have p108 : ∀ t, St p e below T107 (mkF m 130 Ls1 [(.ref a_PACKBITS)]) t → S0 t := fun t k => p106 t (st107 t k)
          let Ls109 : Array Slot := #[.val (.int i0), .val (.int ((i0 &&& (2147483647 : Int32)) % (10 : Int32))), .val (.ref a_PACKBITS), .unset, .unset]
          let Ls110 : Array Slot := #[.val (.int i0), .val (.int ((i0 &&& (2147483647 : Int32)) % (10 : Int32))), .val (.ref a_PACKBITS), .val (.int (0 : Int32)), .unset]
          have p111 : ∀ t, St p e below T107 (mkF m 143 Ls110 [(.ref a_PACKBITS)]) t → S0 t := fun t k => p108 t (by
            show St p e below T107 (mkF m 130 Ls1 [(.ref a_PACKBITS)]) t
            refine XS.astoreN X107.here hx rfl (hb hby at_130) rfl rfl (l' := Ls109) rfl ?_
            show St p e below T107 (mkF m 131 Ls109 []) t
            refine XT.iconstV X107.here hx rfl (0 : Int32) (hb hby at_131) (by decide) ?_
            show St p e below T107 (mkF m 132 Ls109 [(.int (0 : Int32))]) t
            refine XS.istoreN X107.here hx rfl (hb hby at_132) rfl (l' := Ls110) rfl ?_
            show St p e below T107 (mkF m 133 Ls110 []) t
            refine XS.goto X107.here hx rfl (pc0 := 133) (pc' := 142) rfl (hb hby at_133) (by decide) (by decide) ?_
            show St p e below T107 (mkF m 142 Ls110 []) t
            refine XS.aloadN X107.here hx rfl (hb hby at_142) rfl rfl ?_
            exact k)
          obtain ⟨cqc112, kqc112, qc112a, qc112b, qc112c⟩ := isOf hZ e107 (Ea_PACKBITS.ext O0.2)
          obtain ⟨_, _, ⟨Tc112, Lc112, kc112, nc112⟩, -, Xc112, ⟨Lcc112, hQc112, lc112, yc112, zc112⟩, stc112⟩ := X107.virtualBack hx (y := M0) (z := M0) hown (mvT hZ (ww hw 4 rfl)) (mvT hZ (ww hw 5 rfl)) (notFace_of_selects (args := #[]) (mvT hZ (ww hw 7 rfl))) (mvT hZ (ww hw 7 rfl)) (mvT hZ (ww hw 6 rfl)) (by decide) (backOf (W := 0) (rm1_12 l Z a0 hw [] a_NONE a_LZW a_ZLIB a_DEFLATE a_CCITT_T6 a_CCITT_RLE a_CCITT_T4 a_PACKBITS a_OLD_JPEG a_JPEG h0 n0 O0 HE' ) hZ (ww hw 8 rfl) (ww hw 2 rfl) (by decide) (by decide)) qc112a qc112c (g := (mkF m 143 Ls110 [(.ref a_PACKBITS)])) rfl (by rw [hml]; rfl) (Steps.refl _) (argsL := []) (rest := []) (lenOf pd0 rfl) rfl (by show 2 * 0 + _ ≤ _; exact Nat.le_of_eq rfl) (hb hby at_143) (fun _ _ => ⟨rfl, e107, (by decide : 0 + 0 ≤ _), (by decide : 0 + 0 ≤ _)⟩)
          dsimp only [Pt.U, Pt.locs, Pt.cells, Pt.slots] at Xc112 lc112 yc112 zc112 stc112 hQc112
          subst lc112 yc112 zc112
          obtain ⟨Nqc112, ec112, hAc112⟩ := hQc112
          have Nc112 := Fr.app N0 Nqc112
          obtain rfl := hAc112
          have p113 : ∀ t, St p e below Tc112 (mkF m 146 Ls110 [(.int (0 : Int32))]) t → S0 t := fun t k => p111 t (stc112.trans k)
          let Ls114 : Array Slot := #[.val (.int i0), .val (.int ((i0 &&& (2147483647 : Int32)) % (10 : Int32))), .val (.ref a_PACKBITS), .val (.int (0 : Int32)), .val (.int (0 : Int32))]
          have p115 : ∀ t, St p e below Tc112 (mkF m 171 Ls114 [(.int (1 : Int32))]) t → S0 t := fun t k => p113 t (by
            show St p e below Tc112 (mkF m 146 Ls110 [(.int (0 : Int32))]) t
            refine XS.istore Xc112.here hx rfl (hb hby at_146) rfl (l' := Ls114) rfl ?_
            show St p e below Tc112 (mkF m 148 Ls114 []) t
            refine XS.iload Xc112.here hx rfl (hb hby at_148) rfl ?_
            show St p e below Tc112 (mkF m 150 Ls114 [(.int (0 : Int32))]) t
            refine XS.iloadN Xc112.here hx rfl (hb hby at_150) rfl ?_
            show St p e below Tc112 (mkF m 151 Ls114 [(.int (0 : Int32)), (.int (0 : Int32))]) t
            refine XS.icmpNo Xc112.here hx rfl (hb hby at_151) rfl (teq (by decide : (0 : Int32) = (0 : Int32))).2 ?_
            show St p e below Tc112 (mkF m 154 Ls114 []) t
            refine XS.iload Xc112.here hx rfl (hb hby at_154) rfl ?_
            show St p e below Tc112 (mkF m 156 Ls114 [(.int (0 : Int32))]) t
            refine XS.ifYes Xc112.here hx rfl (pc0 := 156) (pc' := 166) rfl (hb hby at_156) rfl ((if0 _ _).trans (teq (by decide : (0 : Int32) = (0 : Int32))).1) (by decide) (by decide) ?_
            show St p e below Tc112 (mkF m 166 Ls114 []) t
            refine XT.iconstV Xc112.here hx rfl (1 : Int32) (hb hby at_166) (by decide) ?_
            show St p e below Tc112 (mkF m 167 Ls114 [(.int (1 : Int32))]) t
            refine XS.goto Xc112.here hx rfl (pc0 := 167) (pc' := 171) rfl (hb hby at_167) (by decide) (by decide) ?_
            exact k)
          obtain ⟨fs, hr, hrun, hended, hW, hsame⟩ := Xc112.leave (v := some (.int (1 : Int32))) (fun h => by rw [Bd.returns] at h; cases h)
          refine ⟨_, _, p115 _ ?_, hrun, hended, _, _, rfl, ?_, ⟨_, rfl⟩, hW, hsame.mono (by decide) (by decide)⟩
          · exact retOut Xc112 hx Bd.returns rfl (Or.inl ⟨rfl, by simp, _, rfl⟩) (hb hby at_171) hr
          · exact ⟨rfl, Nc112⟩
         ·
          have p116 : ∀ t, St p e below s₁ (mkF m 136 Ls1 []) t → S0 t := fun t k => p104 t (by
            show St p e below s₁ (mkF m 124 Ls1 [(.int (8 : Int32)), (.int ((i0 &&& (2147483647 : Int32)) % (10 : Int32)))]) t
            refine XS.icmpYes X0.here hx rfl (pc0 := 124) (pc' := 136) rfl (hb hby at_124) rfl (feq g105).2 (by decide) (by decide) ?_
            exact k)
          obtain ⟨T117, X117, e117, st117⟩ := getS2 X0 hx hZ hown (host := "") (Or.inl (ww hw 39 rfl)) Via.refl e0 (Sa_DEFLATE.ext O0.2) (g := (mkF m 136 Ls1 [])) rfl (hb hby at_136)
          have p118 : ∀ t, St p e below T117 (mkF m 139 Ls1 [(.ref a_DEFLATE)]) t → S0 t := fun t k => p116 t (st117 t k)
          let Ls119 : Array Slot := #[.val (.int i0), .val (.int ((i0 &&& (2147483647 : Int32)) % (10 : Int32))), .val (.ref a_DEFLATE), .unset, .unset]
          let Ls120 : Array Slot := #[.val (.int i0), .val (.int ((i0 &&& (2147483647 : Int32)) % (10 : Int32))), .val (.ref a_DEFLATE), .val (.int (1 : Int32)), .unset]
          have p121 : ∀ t, St p e below T117 (mkF m 143 Ls120 [(.ref a_DEFLATE)]) t → S0 t := fun t k => p118 t (by
            show St p e below T117 (mkF m 139 Ls1 [(.ref a_DEFLATE)]) t
            refine XS.astoreN X117.here hx rfl (hb hby at_139) rfl rfl (l' := Ls119) rfl ?_
            show St p e below T117 (mkF m 140 Ls119 []) t
            refine XT.iconstV X117.here hx rfl (1 : Int32) (hb hby at_140) (by decide) ?_
            show St p e below T117 (mkF m 141 Ls119 [(.int (1 : Int32))]) t
            refine XS.istoreN X117.here hx rfl (hb hby at_141) rfl (l' := Ls120) rfl ?_
            show St p e below T117 (mkF m 142 Ls120 []) t
            refine XS.aloadN X117.here hx rfl (hb hby at_142) rfl rfl ?_
            exact k)
          obtain ⟨cqc122, kqc122, qc122a, qc122b, qc122c⟩ := isOf hZ e117 (Ea_DEFLATE.ext O0.2)
          obtain ⟨_, _, ⟨Tc122, Lc122, kc122, nc122⟩, -, Xc122, ⟨Lcc122, hQc122, lc122, yc122, zc122⟩, stc122⟩ := X117.virtualBack hx (y := M0) (z := M0) hown (mvT hZ (ww hw 4 rfl)) (mvT hZ (ww hw 5 rfl)) (notFace_of_selects (args := #[]) (mvT hZ (ww hw 7 rfl))) (mvT hZ (ww hw 7 rfl)) (mvT hZ (ww hw 6 rfl)) (by decide) (backOf (W := 0) (rm1_13 l Z a0 hw [] a_NONE a_LZW a_ZLIB a_DEFLATE a_CCITT_T6 a_CCITT_RLE a_CCITT_T4 a_PACKBITS a_OLD_JPEG a_JPEG h0 n0 O0 HE' ) hZ (ww hw 8 rfl) (ww hw 2 rfl) (by decide) (by decide)) qc122a qc122c (g := (mkF m 143 Ls120 [(.ref a_DEFLATE)])) rfl (by rw [hml]; rfl) (Steps.refl _) (argsL := []) (rest := []) (lenOf pd0 rfl) rfl (by show 2 * 0 + _ ≤ _; exact Nat.le_of_eq rfl) (hb hby at_143) (fun _ _ => ⟨rfl, e117, (by decide : 0 + 0 ≤ _), (by decide : 0 + 0 ≤ _)⟩)
          dsimp only [Pt.U, Pt.locs, Pt.cells, Pt.slots] at Xc122 lc122 yc122 zc122 stc122 hQc122
          subst lc122 yc122 zc122
          obtain ⟨Nqc122, ec122, hAc122⟩ := hQc122
          have Nc122 := Fr.app N0 Nqc122
          obtain rfl := hAc122
          have p123 : ∀ t, St p e below Tc122 (mkF m 146 Ls120 [(.int (1 : Int32))]) t → S0 t := fun t k => p121 t (stc122.trans k)
          let Ls124 : Array Slot := #[.val (.int i0), .val (.int ((i0 &&& (2147483647 : Int32)) % (10 : Int32))), .val (.ref a_DEFLATE), .val (.int (1 : Int32)), .val (.int (1 : Int32))]
          have p125 : ∀ t, St p e below Tc122 (mkF m 160 Ls124 [(.ref a_DEFLATE)]) t → S0 t := fun t k => p123 t (by
            show St p e below Tc122 (mkF m 146 Ls120 [(.int (1 : Int32))]) t
            refine XS.istore Xc122.here hx rfl (hb hby at_146) rfl (l' := Ls124) rfl ?_
            show St p e below Tc122 (mkF m 148 Ls124 []) t
            refine XS.iload Xc122.here hx rfl (hb hby at_148) rfl ?_
            show St p e below Tc122 (mkF m 150 Ls124 [(.int (1 : Int32))]) t
            refine XS.iloadN Xc122.here hx rfl (hb hby at_150) rfl ?_
            show St p e below Tc122 (mkF m 151 Ls124 [(.int (1 : Int32)), (.int (1 : Int32))]) t
            refine XS.icmpNo Xc122.here hx rfl (hb hby at_151) rfl (teq (by decide : (1 : Int32) = (1 : Int32))).2 ?_
            show St p e below Tc122 (mkF m 154 Ls124 []) t
            refine XS.iload Xc122.here hx rfl (hb hby at_154) rfl ?_
            show St p e below Tc122 (mkF m 156 Ls124 [(.int (1 : Int32))]) t
            refine XS.ifNo Xc122.here hx rfl (hb hby at_156) rfl ((if0 _ _).trans (feq (by decide : ¬ ((1 : Int32) = (0 : Int32)))).1) ?_
            show St p e below Tc122 (mkF m 159 Ls124 []) t
            refine XS.aloadN Xc122.here hx rfl (hb hby at_159) rfl rfl ?_
            exact k)
          obtain ⟨cqc126, kqc126, qc126a, qc126b, qc126c⟩ := isOf hZ ec122 (Ea_DEFLATE.ext O0.2)
          obtain ⟨_, _, ⟨Tc126, Lc126, kc126, nc126⟩, -, Xc126, ⟨Lcc126, hQc126, lc126, yc126, zc126⟩, stc126⟩ := Xc122.virtualBack hx (y := M3) (z := M3) hown (mvT hZ (ww hw 20 rfl)) (mvT hZ (ww hw 21 rfl)) (notFace_of_selects (args := #[]) (mvT hZ (ww hw 23 rfl))) (mvT hZ (ww hw 23 rfl)) (mvT hZ (ww hw 22 rfl)) (by decide) (backOf (W := 0) (rm2_14 l Z a0 hw [] a_NONE a_LZW a_ZLIB a_DEFLATE a_CCITT_T6 a_CCITT_RLE a_CCITT_T4 a_PACKBITS a_OLD_JPEG a_JPEG h0 n0 O0 HE' ) hZ (ww hw 24 rfl) (ww hw 2 rfl) (by decide) (by decide)) qc126a qc126c (g := (mkF m 160 Ls124 [(.ref a_DEFLATE)])) rfl (by rw [hml]; rfl) (Steps.refl _) (argsL := []) (rest := []) (lenOf pd0 rfl) rfl (by show 2 * 0 + _ ≤ _; exact Nat.le_of_eq rfl) (hb hby at_160) (fun _ _ => ⟨rfl, ec122, (by decide : 0 + 0 ≤ _), (by decide : 0 + 0 ≤ _)⟩)
          dsimp only [Pt.U, Pt.locs, Pt.cells, Pt.slots] at Xc126 lc126 yc126 zc126 stc126 hQc126
          subst lc126 yc126 zc126
          obtain ⟨Nqc126, ec126, hAc126⟩ := hQc126
          have Nc126 := Fr.app Nc122 Nqc126
          obtain rfl := hAc126
          have p127 : ∀ t, St p e below Tc126 (mkF m 163 Ls124 [(.int (1 : Int32))]) t → S0 t := fun t k => p125 t (stc126.trans k)
          have p128 : ∀ t, St p e below Tc126 (mkF m 171 Ls124 [(.int (1 : Int32))]) t → S0 t := fun t k => p127 t (by
            show St p e below Tc126 (mkF m 163 Ls124 [(.int (1 : Int32))]) t
            refine XS.ifNo Xc126.here hx rfl (hb hby at_163) rfl ((if0 _ _).trans (feq (by decide : ¬ ((1 : Int32) = (0 : Int32)))).1) ?_
            show St p e below Tc126 (mkF m 166 Ls124 []) t
            refine XT.iconstV Xc126.here hx rfl (1 : Int32) (hb hby at_166) (by decide) ?_
            show St p e below Tc126 (mkF m 167 Ls124 [(.int (1 : Int32))]) t
            refine XS.goto Xc126.here hx rfl (pc0 := 167) (pc' := 171) rfl (hb hby at_167) (by decide) (by decide) ?_
            exact k)
          obtain ⟨fs, hr, hrun, hended, hW, hsame⟩ := Xc126.leave (v := some (.int (1 : Int32))) (fun h => by rw [Bd.returns] at h; cases h)
          refine ⟨_, _, p128 _ ?_, hrun, hended, _, _, rfl, ?_, ⟨_, rfl⟩, hW, hsame.mono (by decide) (by decide)⟩
          · exact retOut Xc126 hx Bd.returns rfl (Or.inl ⟨rfl, by simp, _, rfl⟩) (hb hby at_171) hr
          · exact ⟨rfl, Nc126⟩
set_option maxRecDepth 65536 in
set_option maxHeartbeats 40000000 in
theorem comes_1 {Post : Tables → Env → Array Value → State → Outcome → State → Prop} (hpost : ∀ tb e args s v u, (limb_1_1.after args s (.returned v) u = true ∧ limb_1_2.after args s (.returned v) u = true ∧ True) → FrameEnd s (.returned v) u (Jvm.fieldLocs frame_1_writes args s ++ Jvm.arrayLocs frame_1_arrays args s ++ Jvm.staticLocs frame_1_statics s) 0 0 → Post tb e args s (.returned v) u) :
    ArmFor flags0 classFile x code maxLocals ret World_1 tables_1 room_1 Calls_1 rest_1 Pre_1 Post := by
  intro l hfl _ _ p e ha hc hk s m args below hf hA hF happ hP
  obtain ⟨hcalls, hrest, hpre⟩ := hP
  obtain ⟨-, -, -, hnamed, -, -, -, hat⟩ := (Spec.applies_iff hf).mp happ
  obtain ⟨hg, hn⟩ := and_e (Cond.before_iff.mp (show (Jvm.Cond.and given_1 narrow_1).before args s = true from hpre))
  obtain ⟨hj1a, hj1b⟩ := and_e hg
  obtain ⟨w0, rfl⟩ : ∃ w0 : Value, args = #[w0] := by
    have hs : args.size = 1 := by simpa [Cond.value, given_1] using hj1a
    obtain ⟨L⟩ := args
    match L, hs with
    | [w0], _ => exact ⟨w0, rfl⟩
  have hw := fun d (hd : d ∈ tables_1) => atoms_spec (ws := Jvm.Cond.code x code maxLocals ret :: tables_1) hat d (List.mem_cons_of_mem _ hd)
  have hfit : Fit s := fun {y c} hc i hi => by
    obtain ⟨ha, rfl⟩ := Array.getElem?_eq_some_iff.mp hc
    have q := List.all_eq_true.mp ((Array.all_eq_true_iff_forall_mem.mp hF) _ (Array.getElem_mem ha)) i (List.mem_range.mpr hi)
    simpa [Array.getElem?_eq_getElem hi] using q
  obtain ⟨i0, ei0⟩ := is_v hj1b
  obtain rfl : w0 = (.int i0) := Option.some.inj ei0
  obtain ⟨hj2a, hj2b⟩ := and_e hn
  obtain ⟨hj3a, hj3b⟩ := and_e hj2b
  obtain ⟨hj4a, hj4b⟩ := and_e hj3b
  obtain ⟨hj5a, hj5b⟩ := and_e hj4b
  obtain ⟨hj6a, hj6b⟩ := and_e hj5b
  obtain ⟨hj7a, hj7b⟩ := and_e hj6b
  obtain ⟨hj8a, hj8b⟩ := and_e hj7b
  obtain ⟨hj9a, hj9b⟩ := and_e hj8b
  obtain ⟨hj10a, hj10b⟩ := and_e hj9b
  obtain ⟨hj11a, hj11b⟩ := and_e hj10b
  obtain ⟨hj12a, hj12b⟩ := and_e hj11b
  obtain ⟨hj13a, hj13b⟩ := and_e hj12b
  obtain ⟨hj14a, hj14b⟩ := and_e hj13b
  obtain ⟨hj15a, hj15b⟩ := and_e hj14b
  obtain ⟨hj16a, hj16b⟩ := and_e hj15b
  obtain ⟨hj17a, hj17b⟩ := and_e hj16b
  obtain ⟨hj18a, hj18b⟩ := and_e hj17b
  obtain ⟨hj19a, hj19b⟩ := and_e hj18b
  obtain ⟨hj20a, hj20b⟩ := and_e hj19b
  have hn0 := hj2a
  have hn1 := hj3a
  have hn2 := hj4a
  have hn3 := hj5a
  have hn4 := hj6a
  have hn5 := hj7a
  have hn6 := hj8a
  have hn7 := hj9a
  have hn8 := hj10a
  have hn9 := hj11a
  have hn10 := hj12a
  have hn11 := hj13a
  have hn12 := hj14a
  have hn13 := hj15a
  have hn14 := hj16a
  have hn15 := hj17a
  have hn16 := hj18a
  have hn17 := hj19a
  have hn18 := hj20a
  have hn19 := hj20b
  obtain ⟨a_NONE, eva_NONE⟩ := exa_v hn0
  obtain ⟨a_LZW, eva_LZW⟩ := exa_v hn1
  obtain ⟨a_ZLIB, eva_ZLIB⟩ := exa_v hn4
  obtain ⟨a_DEFLATE, eva_DEFLATE⟩ := exa_v hn6
  obtain ⟨a_CCITT_T6, eva_CCITT_T6⟩ := exa_v hn8
  obtain ⟨a_CCITT_RLE, eva_CCITT_RLE⟩ := exa_v hn10
  obtain ⟨a_CCITT_T4, eva_CCITT_T4⟩ := exa_v hn12
  obtain ⟨a_PACKBITS, eva_PACKBITS⟩ := exa_v hn14
  obtain ⟨a_OLD_JPEG, eva_OLD_JPEG⟩ := exa_v hn16
  obtain ⟨a_JPEG, eva_JPEG⟩ := exa_v hn18
  obtain ⟨n, o, h1, h2, h3, _, L, rfl, ⟨rfl, N⟩, hq⟩ := rm0 l s _ hw tables_1 a_NONE a_LZW a_ZLIB a_DEFLATE a_CCITT_T6 a_CCITT_RLE a_CCITT_T4 a_PACKBITS a_OLD_JPEG a_JPEG i0 s.heap s.heap.size (Old.start s) ⟨(Sta.start eva_NONE (Or.inr ⟨(ww hw 2 rfl), (ww hw 3 rfl)⟩)), (Exa.start eva_NONE hn0), (Sta.start eva_LZW (Or.inr ⟨(ww hw 2 rfl), (ww hw 10 rfl)⟩)), (Exa.start eva_LZW hn1), (Fld.start ((fld_at eva_NONE).symm.trans (own_eqI hn2))), (Fld.start ((fld_at eva_LZW).symm.trans (own_eqI hn3))), (Sta.start eva_ZLIB (Or.inr ⟨(ww hw 2 rfl), (ww hw 12 rfl)⟩)), (Exa.start eva_ZLIB hn4), (Fld.start ((fld_at eva_ZLIB).symm.trans (own_eqI hn5))), (Sta.start eva_DEFLATE (Or.inr ⟨(ww hw 2 rfl), (ww hw 14 rfl)⟩)), (Exa.start eva_DEFLATE hn6), (Fld.start ((fld_at eva_DEFLATE).symm.trans (own_eqI hn7))), (Sta.start eva_CCITT_T6 (Or.inr ⟨(ww hw 2 rfl), (ww hw 16 rfl)⟩)), (Exa.start eva_CCITT_T6 hn8), (Fld.start ((fld_at eva_CCITT_T6).symm.trans (own_eqI hn9))), (Sta.start eva_CCITT_RLE (Or.inr ⟨(ww hw 2 rfl), (ww hw 18 rfl)⟩)), (Exa.start eva_CCITT_RLE hn10), (Fld.start ((fld_at eva_CCITT_RLE).symm.trans (own_eqI hn11))), (Sta.start eva_CCITT_T4 (Or.inr ⟨(ww hw 2 rfl), (ww hw 36 rfl)⟩)), (Exa.start eva_CCITT_T4 hn12), (Fld.start ((fld_at eva_CCITT_T4).symm.trans (own_eqI hn13))), (Sta.start eva_PACKBITS (Or.inr ⟨(ww hw 2 rfl), (ww hw 38 rfl)⟩)), (Exa.start eva_PACKBITS hn14), (Fld.start ((fld_at eva_PACKBITS).symm.trans (own_eqI hn15))), (Sta.start eva_OLD_JPEG (Or.inr ⟨(ww hw 2 rfl), (ww hw 41 rfl)⟩)), (Exa.start eva_OLD_JPEG hn16), (Fld.start ((fld_at eva_OLD_JPEG).symm.trans (own_eqI hn17))), (Sta.start eva_JPEG (Or.inr ⟨(ww hw 2 rfl), (ww hw 43 rfl)⟩)), (Exa.start eva_JPEG hn18), (Fld.start ((fld_at eva_JPEG).symm.trans (own_eqI hn19)))⟩ p e ha hc hk s m _ below hf ((Spec.applies_iff_loose hf).mp happ).1 ⟨rfl, State.Warmed39.refl s, rfl⟩ trivial
  refine ⟨n, _, h1, h2, h3, hpost _ _ _ _ _ _ ⟨Cond.after_iff.mpr rfl, Cond.after_iff.mpr (eq_i res_at (Term.int_eval (1)) rfl), trivial⟩ ⟨hq.1, hq.2.1, (hq.2.2.sift fun y hy => Or.inr (N y hy)).mono (by decide) (by decide)⟩⟩
theorem main_1_1 : Claimed_1_1 := comes_1 fun _ _ _ _ _ _ h hF => ⟨h.1, hF⟩
theorem main_1_2 : Claimed_1_2 := comes_1 fun _ _ _ _ _ _ h hF => ⟨h.2.1, hF⟩
end Jvm.Pilot.@@N@@
namespace Jvm.Pilot.@@N@@
open Jvm Jvm.ClassFile Sem Op Lib Jvm.Free Jvm.Stand Jvm.Pilot.@@N@@.Jvm.D
/-! MADE BY PROGRAM (witnessworld.py) out of the Statement's table words and the real class files: 12 classes; the members and pool entries that the words name. The judged class is class 1, her method 1. -/
namespace start1
open Jvm.ClassFile
def u (s : String) : CpInfo := .utf8 (stringToUtf16 s)
/-- a pool by its gaps: so many unusable entries, then the entry; so many at the end -/
def gap : Nat → List CpInfo → List CpInfo
  | 0, r => r
  | n + 1, r => .unusable :: gap n r
def poolList (es : List (Nat × CpInfo)) (last : Nat) : List CpInfo := es.foldr (fun e r => gap e.1 (e.2 :: r)) (gap last [])
def pool (es : List (Nat × CpInfo)) (last : Nat) : Array CpInfo := ⟨poolList es last⟩
def fileOf (pool : Array CpInfo) (this : Nat) (attrs : Array Attribute := #[]) (ms : Array MethodInfo := #[]) (fl : Nat := 33) (sup : Nat := 0) (ifs : Array Nat := #[]) (fds : Array FieldInfo := #[]) : ClassFile where
  minorVersion := 0
  majorVersion := 65
  constantPool := pool
  accessFlags := fl
  thisClass := this
  superClass := sup
  interfaces := ifs
  fields := fds
  methods := ms
  attributes := attrs
def plain (name : String) (sup : Option ClassId) : Class where
  name := name
  kind := .ordinary
  loader := none
  accessFlags := 33
  super := sup
  interfaces := #[]
  cf := none
  fields := #[]
  methods := #[]
  instanceTypes := #[]
  staticTypes := #[]
  resolved := #[]
  callSites := []
  init := .initialized
  statics := none
  mirror := none

def pool0 : Array CpInfo := pool [(5, u "<init>"), (0, u "()V"), (1, .class_ 10), (1, u "java/lang/Object")] 113

def k0m0 : Method := { name := "<init>", desc := "()V", sig := { parameters := [], returnType := none }, accessFlags := 1, code := none }
/-- java/lang/Object -/
def k0 : Class := { plain "java/lang/Object" none with
  accessFlags := 33
  interfaces := #[]
  cf := some (fileOf pool0 8 #[] #[{ accessFlags := 1, nameIndex := 5, descriptorIndex := 6, attributes := #[] }] 33 0 #[] #[])
  fields := #[]
  methods := #[k0m0]
  instanceTypes := #[]
  staticTypes := #[]
  resolved := Array.replicate 124 none
  statics := none }

def pool1 : Array CpInfo := pool [(2, .class_ 4), (1, u "java/lang/Object"), (0, u "<init>"), (0, u "()V"), (0, .integer 2147483647), (0, .fieldref 9 10), (0, .class_ 11), (0, .nameAndType 12 13), (0, u "dev/ambrotype/imageio/TiffCompression"), (0, u "NONE"), (0, u "Ldev/ambrotype/imageio/TiffCompression;"), (0, .fieldref 9 15), (0, .nameAndType 16 13), (0, u "CCITT_RLE"), (0, .fieldref 9 18), (0, .nameAndType 19 13), (0, u "CCITT_T4"), (0, .fieldref 9 21), (0, .nameAndType 22 13), (0, u "CCITT_T6"), (0, .fieldref 9 24), (0, .nameAndType 25 13), (0, u "LZW"), (0, .fieldref 9 27), (0, .nameAndType 28 13), (0, u "OLD_JPEG"), (0, .fieldref 9 30), (0, .nameAndType 31 13), (0, u "JPEG"), (0, .fieldref 9 33), (0, .nameAndType 34 13), (0, u "ZLIB"), (0, .fieldref 9 36), (0, .nameAndType 37 13), (0, u "PACKBITS"), (0, .fieldref 9 39), (0, .nameAndType 40 13), (0, u "DEFLATE"), (0, .methodref 9 42), (0, .nameAndType 43 44), (0, u "predicted"), (0, u "()Z"), (0, .methodref 9 46), (0, .nameAndType 47 44), (0, u "byteStream"), (0, .class_ 49), (0, u "dev/ambrotype/imageio/TiffCompressionPredictedPinLaw"), (2, u "law"), (0, u "(I)Z")] 3

def k1m0 : Method := { name := "<init>", desc := "()V", sig := { parameters := [], returnType := none }, accessFlags := 2, code := none }
def k1c1 : Code := { maxStack := 2, maxLocals := 5, code := code, exceptionTable := #[], attributes := #[] }
def k1m1 : Method := { name := "law", desc := "(I)Z", sig := { parameters := [.int], returnType := some .boolean }, accessFlags := 9, code := some k1c1 }
/-- dev/ambrotype/imageio/TiffCompressionPredictedPinLaw -/
def k1 : Class := { plain "dev/ambrotype/imageio/TiffCompressionPredictedPinLaw" (some 0) with
  accessFlags := 49
  interfaces := #[]
  cf := some (fileOf pool1 48 #[] #[{ accessFlags := 2, nameIndex := 5, descriptorIndex := 6, attributes := #[] }, { accessFlags := 9, nameIndex := 52, descriptorIndex := 53, attributes := #[] }] 49 2 #[] #[])
  fields := #[]
  methods := #[k1m0, k1m1]
  instanceTypes := #[]
  staticTypes := #[]
  resolved := Array.replicate 57 none
  statics := none }

def pool2 : Array CpInfo := pool [(1, .class_ 2), (0, u "java/lang/constant/Constable"), (0, .class_ 4), (0, u "java/lang/Object")] 6

/-- java/lang/constant/Constable -/
def k2 : Class := { plain "java/lang/constant/Constable" (some 0) with
  accessFlags := 1537
  interfaces := #[]
  cf := some (fileOf pool2 1 #[] #[] 1537 3 #[] #[])
  fields := #[]
  methods := #[]
  instanceTypes := #[]
  staticTypes := #[]
  resolved := Array.replicate 11 none
  statics := none }

def pool3 : Array CpInfo := pool [(1, .class_ 2), (0, u "java/lang/Comparable"), (0, .class_ 4), (0, u "java/lang/Object")] 7

/-- java/lang/Comparable -/
def k3 : Class := { plain "java/lang/Comparable" (some 0) with
  accessFlags := 1537
  interfaces := #[]
  cf := some (fileOf pool3 1 #[] #[] 1537 3 #[] #[])
  fields := #[]
  methods := #[]
  instanceTypes := #[]
  staticTypes := #[]
  resolved := Array.replicate 12 none
  statics := none }

def pool4 : Array CpInfo := pool [(1, .class_ 2), (0, u "java/io/Serializable"), (0, .class_ 4), (0, u "java/lang/Object")] 2

/-- java/io/Serializable -/
def k4 : Class := { plain "java/io/Serializable" (some 0) with
  accessFlags := 1537
  interfaces := #[]
  cf := some (fileOf pool4 1 #[] #[] 1537 3 #[] #[])
  fields := #[]
  methods := #[]
  instanceTypes := #[]
  staticTypes := #[]
  resolved := Array.replicate 7 none
  statics := none }

def pool5 : Array CpInfo := pool [(2, .class_ 4), (1, u "java/lang/Enum"), (0, u "name"), (0, u "Ljava/lang/String;"), (0, .fieldref 2 8), (0, .nameAndType 9 10), (0, u "ordinal"), (0, u "I"), (1, .class_ 14), (1, u "java/lang/Object"), (4, u "hash"), (86, .class_ 108), (1, u "java/lang/Enum$EnumDesc"), (2, .class_ 112), (0, u "java/lang/constant/Constable"), (0, .class_ 114), (0, u "java/lang/Comparable"), (0, .class_ 116), (0, u "java/io/Serializable"), (9, u "()I")] 77

def k5c0 : Code := { maxStack := 1, maxLocals := 1, code := jdk_37_method_2_code, exceptionTable := #[], attributes := #[] }
def k5m0 : Method := { name := "ordinal", desc := "()I", sig := { parameters := [], returnType := some .int }, accessFlags := 17, code := some k5c0 }
/-- java/lang/Enum -/
def k5 : Class := { plain "java/lang/Enum" (some 0) with
  accessFlags := 1057
  interfaces := #[2, 3, 4]
  cf := some (fileOf pool5 2 #[.nestMembers #[106]] #[{ accessFlags := 17, nameIndex := 9, descriptorIndex := 126, attributes := #[] }] 1057 12 #[111, 113, 115] #[{ accessFlags := 18, nameIndex := 5, descriptorIndex := 6, attributes := #[] }, { accessFlags := 18, nameIndex := 9, descriptorIndex := 10, attributes := #[] }, { accessFlags := 2, nameIndex := 19, descriptorIndex := 10, attributes := #[] }])
  fields := #[{ name := "name", type := (.object "java/lang/String"), accessFlags := 18, slot := 0, constantValue := 0 }, { name := "ordinal", type := .int, accessFlags := 18, slot := 1, constantValue := 0 }, { name := "hash", type := .int, accessFlags := 2, slot := 2, constantValue := 0 }]
  methods := #[k5m0]
  instanceTypes := #[(.object "java/lang/String"), .int, .int]
  staticTypes := #[]
  resolved := Array.replicate 204 none
  statics := none }

def pool6 : Array CpInfo := pool [(3, .class_ 4), (0, u "dev/ambrotype/imageio/TiffCompression"), (2, u "NONE"), (0, u "Ldev/ambrotype/imageio/TiffCompression;"), (2, u "CCITT_RLE"), (2, u "CCITT_T4"), (2, u "CCITT_T6"), (0, .fieldref 3 19), (0, .nameAndType 20 8), (0, u "LZW"), (2, u "OLD_JPEG"), (2, u "JPEG"), (0, .fieldref 3 28), (0, .nameAndType 29 8), (0, u "ZLIB"), (2, u "PACKBITS"), (0, .fieldref 3 34), (0, .nameAndType 35 8), (0, u "DEFLATE"), (2, u "$VALUES"), (0, u "[Ldev/ambrotype/imageio/TiffCompression;"), (6, .class_ 48), (1, u "java/lang/Enum"), (8, u "value"), (0, u "I"), (24, .methodref 3 84), (0, .nameAndType 85 86), (0, u "ordinal"), (0, u "()I"), (25, u "()Z"), (50, u "byteStream"), (1, u "predicted")] 29

def k6c0 : Code := { maxStack := 1, maxLocals := 1, code := prog_68_method_7_code, exceptionTable := #[], attributes := #[] }
def k6m0 : Method := { name := "byteStream", desc := "()Z", sig := { parameters := [], returnType := some .boolean }, accessFlags := 0, code := some k6c0 }
def k6c1 : Code := { maxStack := 2, maxLocals := 1, code := prog_68_method_9_code, exceptionTable := #[], attributes := #[] }
def k6m1 : Method := { name := "predicted", desc := "()Z", sig := { parameters := [], returnType := some .boolean }, accessFlags := 0, code := some k6c1 }
/-- dev/ambrotype/imageio/TiffCompression -/
def k6 : Class := { plain "dev/ambrotype/imageio/TiffCompression" (some 5) with
  accessFlags := 16432
  interfaces := #[]
  cf := some (fileOf pool6 3 #[] #[{ accessFlags := 0, nameIndex := 163, descriptorIndex := 112, attributes := #[] }, { accessFlags := 0, nameIndex := 165, descriptorIndex := 112, attributes := #[] }] 16432 46 #[] #[{ accessFlags := 16409, nameIndex := 7, descriptorIndex := 8, attributes := #[] }, { accessFlags := 16409, nameIndex := 11, descriptorIndex := 8, attributes := #[] }, { accessFlags := 16409, nameIndex := 14, descriptorIndex := 8, attributes := #[] }, { accessFlags := 16409, nameIndex := 17, descriptorIndex := 8, attributes := #[] }, { accessFlags := 16409, nameIndex := 20, descriptorIndex := 8, attributes := #[] }, { accessFlags := 16409, nameIndex := 23, descriptorIndex := 8, attributes := #[] }, { accessFlags := 16409, nameIndex := 26, descriptorIndex := 8, attributes := #[] }, { accessFlags := 16409, nameIndex := 29, descriptorIndex := 8, attributes := #[] }, { accessFlags := 16409, nameIndex := 32, descriptorIndex := 8, attributes := #[] }, { accessFlags := 16409, nameIndex := 35, descriptorIndex := 8, attributes := #[] }, { accessFlags := 18, nameIndex := 57, descriptorIndex := 58, attributes := #[] }, { accessFlags := 4122, nameIndex := 38, descriptorIndex := 39, attributes := #[] }])
  fields := #[{ name := "NONE", type := (.object "dev/ambrotype/imageio/TiffCompression"), accessFlags := 16409, slot := 0, constantValue := 0 }, { name := "CCITT_RLE", type := (.object "dev/ambrotype/imageio/TiffCompression"), accessFlags := 16409, slot := 1, constantValue := 0 }, { name := "CCITT_T4", type := (.object "dev/ambrotype/imageio/TiffCompression"), accessFlags := 16409, slot := 2, constantValue := 0 }, { name := "CCITT_T6", type := (.object "dev/ambrotype/imageio/TiffCompression"), accessFlags := 16409, slot := 3, constantValue := 0 }, { name := "LZW", type := (.object "dev/ambrotype/imageio/TiffCompression"), accessFlags := 16409, slot := 4, constantValue := 0 }, { name := "OLD_JPEG", type := (.object "dev/ambrotype/imageio/TiffCompression"), accessFlags := 16409, slot := 5, constantValue := 0 }, { name := "JPEG", type := (.object "dev/ambrotype/imageio/TiffCompression"), accessFlags := 16409, slot := 6, constantValue := 0 }, { name := "ZLIB", type := (.object "dev/ambrotype/imageio/TiffCompression"), accessFlags := 16409, slot := 7, constantValue := 0 }, { name := "PACKBITS", type := (.object "dev/ambrotype/imageio/TiffCompression"), accessFlags := 16409, slot := 8, constantValue := 0 }, { name := "DEFLATE", type := (.object "dev/ambrotype/imageio/TiffCompression"), accessFlags := 16409, slot := 9, constantValue := 0 }, { name := "value", type := .int, accessFlags := 18, slot := 3, constantValue := 0 }, { name := "$VALUES", type := (.array (.object "dev/ambrotype/imageio/TiffCompression")), accessFlags := 4122, slot := 10, constantValue := 0 }]
  methods := #[k6m0, k6m1]
  instanceTypes := #[(.object "java/lang/String"), .int, .int, .int]
  staticTypes := #[(.object "dev/ambrotype/imageio/TiffCompression"), (.object "dev/ambrotype/imageio/TiffCompression"), (.object "dev/ambrotype/imageio/TiffCompression"), (.object "dev/ambrotype/imageio/TiffCompression"), (.object "dev/ambrotype/imageio/TiffCompression"), (.object "dev/ambrotype/imageio/TiffCompression"), (.object "dev/ambrotype/imageio/TiffCompression"), (.object "dev/ambrotype/imageio/TiffCompression"), (.object "dev/ambrotype/imageio/TiffCompression"), (.object "dev/ambrotype/imageio/TiffCompression"), (.array (.object "dev/ambrotype/imageio/TiffCompression"))]
  resolved := Array.replicate 195 none
  statics := some 0 }

def pool7 : Array CpInfo := pool [(1, u "java/lang/Cloneable"), (0, .class_ 1), (0, u "java/lang/Object"), (0, .class_ 3)] 3

/-- java/lang/Cloneable -/
def k7 : Class := { plain "java/lang/Cloneable" (some 0) with
  accessFlags := 1537
  interfaces := #[]
  cf := some (fileOf pool7 2 #[] #[] 1537 4 #[] #[])
  fields := #[]
  methods := #[]
  instanceTypes := #[]
  staticTypes := #[]
  resolved := Array.replicate 8 none
  statics := none }

/-- the primitive byte -/
def k8 : Class := { plain "byte" none with kind := .primitive 'B', accessFlags := 0x411 }
/-- [B -/
def k9 : Class := { plain "[B" (some 0) with kind := .array 8 .byte, interfaces := #[7, 4], accessFlags := 1041 }

/-- the primitive int -/
def k10 : Class := { plain "int" none with kind := .primitive 'I', accessFlags := 0x411 }
/-- [I -/
def k11 : Class := { plain "[I" (some 0) with kind := .array 10 .int, interfaces := #[7, 4], accessFlags := 1041 }

def heap : Heap := #[{ cls := 6, slots := #[.ref 1, .ref 6, .ref 7, .ref 5, .ref 2, .ref 9, .ref 10, .ref 3, .ref 8, .ref 4, .null], vm := .statics 6 },
  { cls := 6, slots := #[.null, .int 0, .int 0, .int 0], vm := .none },
  { cls := 6, slots := #[.null, .int 4, .int 0, .int 0], vm := .none },
  { cls := 6, slots := #[.null, .int 7, .int 0, .int 0], vm := .none },
  { cls := 6, slots := #[.null, .int 9, .int 0, .int 0], vm := .none },
  { cls := 6, slots := #[.null, .int 3, .int 0, .int 0], vm := .none },
  { cls := 6, slots := #[.null, .int 1, .int 0, .int 0], vm := .none },
  { cls := 6, slots := #[.null, .int 2, .int 0, .int 0], vm := .none },
  { cls := 6, slots := #[.null, .int 8, .int 0, .int 0], vm := .none },
  { cls := 6, slots := #[.null, .int 5, .int 0, .int 0], vm := .none },
  { cls := 6, slots := #[.null, .int 6, .int 0, .int 0], vm := .none }]
def classes : Array Class := #[k0, k1, k2, k3, k4, k5, k6, k7, k8, k9, k10, k11]
def interned : List (Array UInt16 × Addr) := []
def slotsUsed : Nat := 51
def theMethod : MethodId := ⟨1, 1⟩
def args0 : Array Value := #[.int 5]
def aboutOver (below : List Frame) : State where
  vm := { classes := classes, interned := interned.toArray }
  heap := heap
  slotsUsed := slotsUsed
  threads := #[{ frames := .invoking theMethod args0 :: below }]
def below0 : List Frame := [.native { method := ⟨0, 0⟩, args := #[] }]
def about1 : State := aboutOver below0
def p0 : Program := .bare "" "" ""
def e0 : Env := launch0.env 0 0 0
theorem w_frames : about1.frames = Frame.invoking theMethod args0 :: below0 := rfl
set_option maxRecDepth 65536 in
theorem w_args : argsFit about1.vm theMethod args0 = true := by decide +kernel
set_option maxRecDepth 65536 in
theorem w_heap : heapFits about1 = true := by decide +kernel
set_option maxRecDepth 65536 in
theorem w_runnable : about1.curStatus? = some .runnable := by decide +kernel
set_option maxRecDepth 65536 in
theorem w_alone : about1.alone = true := by decide +kernel
set_option maxRecDepth 65536 in
theorem w_named : about1.methodNamed? x = some theMethod := by decide +kernel
set_option maxRecDepth 65536 in
theorem w_hears : about1.hears theMethod below0 = true := by decide +kernel
set_option maxRecDepth 65536 in
theorem w_ripe : about1.ripe theMethod args0 below0 = true := by decide +kernel
theorem w_running : about1.status = .running := rfl
set_option maxRecDepth 65536 in
theorem w_room : about1.hasRoom e0.platform room_1 = true :=
  launch0.hasRoom_least _ room_1 (by decide +kernel) (by decide +kernel) (by decide +kernel) (by decide +kernel) (by decide +kernel) (by decide +kernel)
theorem allAtoms_all (ts : List Jvm.Cond) (a : Array Jvm.Value) (st : Jvm.State) : (allAtoms ts).before a st = ts.all (fun c => c.before a st) := by
  induction ts with
  | nil => rfl
  | cons c t ih =>
    show (Jvm.Cond.and c (allAtoms t)).before a st = _
    rw [Jvm.Cond.before_and, ih, List.all_cons]
def words1 : List Jvm.Cond := Jvm.Cond.code x code maxLocals ret :: tables_1
/-- a 'code' word, met by the world's own term for the bytes: nothing is compared byte by byte -/
theorem code_word {y : MethodName} {bytes : ByteArray} {mx : Nat} {rt : Option FieldType} {a : Array Value} {s : State} {m : MethodId} {meth : Method} {c : Code} (h1 : s.methodNamed? y = some m) (h2 : s.vm.method? m = some meth) (h3 : meth.code = some c) (h4 : c.code = bytes)
    (h5 : (c.maxLocals == mx && c.exceptionTable.isEmpty && decide (c.maxStack ≤ mostOperands) && decide (meth.sig.returnType = rt) && !meth.locks && decide (parseMethodDescriptor y.desc = some meth.sig)) = true) : (Jvm.Cond.code y bytes mx rt).before a s = true := by
  simp only [Bool.and_eq_true, beq_iff_eq, Bool.not_eq_true', decide_eq_true_eq] at h5
  obtain ⟨⟨⟨⟨⟨g1, g2⟩, g3⟩, g4⟩, g5⟩, g6⟩ := h5
  simp [Cond.before, Cond.holds, Cond.value, h1, h2, h3, h4, g1, g2, g3, g4, g5, g6]
def isCode : Jvm.Cond → Bool
  | .code _ _ _ _ => true
  | _ => false
theorem all_split {L : List Jvm.Cond} {P : Jvm.Cond → Bool} (h1 : L.all (fun c => isCode c || P c) = true) (h2 : ∀ c ∈ L.filter isCode, P c = true) : L.all P = true := by
  refine List.all_eq_true.mpr fun c hc => ?_
  have h := List.all_eq_true.mp h1 c hc
  rcases Bool.eq_false_or_eq_true (isCode c) with hi | hi
  · exact h2 c (List.mem_filter.mpr ⟨hc, hi⟩)
  · simpa [hi] using h
set_option maxRecDepth 65536 in
theorem w_c0 : (Jvm.Cond.code x code maxLocals ret).before args0 about1 = true := code_word (m := ⟨1, 1⟩) (meth := k1m1) (c := k1c1) (by decide +kernel) rfl rfl rfl (by decide +kernel)
set_option maxRecDepth 65536 in
theorem w_c1 : (Jvm.Cond.code ({ cls := "dev/ambrotype/imageio/TiffCompression", name := "predicted", desc := "()Z" } : Jvm.MethodName) prog_68_method_9_code (1 : Nat) (Option.some Jvm.ClassFile.FieldType.boolean)).before args0 about1 = true := code_word (m := ⟨6, 1⟩) (meth := k6m1) (c := k6c1) (by decide +kernel) rfl rfl rfl (by decide +kernel)
set_option maxRecDepth 65536 in
theorem w_c2 : (Jvm.Cond.code ({ cls := "dev/ambrotype/imageio/TiffCompression", name := "byteStream", desc := "()Z" } : Jvm.MethodName) prog_68_method_7_code (1 : Nat) (Option.some Jvm.ClassFile.FieldType.boolean)).before args0 about1 = true := code_word (m := ⟨6, 0⟩) (meth := k6m0) (c := k6c0) (by decide +kernel) rfl rfl rfl (by decide +kernel)
set_option maxRecDepth 65536 in
theorem w_c3 : (Jvm.Cond.code ({ cls := "java/lang/Enum", name := "ordinal", desc := "()I" } : Jvm.MethodName) jdk_37_method_2_code (1 : Nat) (Option.some Jvm.ClassFile.FieldType.int)).before args0 about1 = true := code_word (m := ⟨5, 0⟩) (meth := k5m0) (c := k5c0) (by decide +kernel) rfl rfl rfl (by decide +kernel)
def codes1 : List Jvm.Cond := [Jvm.Cond.code x code maxLocals ret, Jvm.Cond.code ({ cls := "dev/ambrotype/imageio/TiffCompression", name := "predicted", desc := "()Z" } : Jvm.MethodName) prog_68_method_9_code (1 : Nat) (Option.some Jvm.ClassFile.FieldType.boolean), Jvm.Cond.code ({ cls := "dev/ambrotype/imageio/TiffCompression", name := "byteStream", desc := "()Z" } : Jvm.MethodName) prog_68_method_7_code (1 : Nat) (Option.some Jvm.ClassFile.FieldType.boolean), Jvm.Cond.code ({ cls := "java/lang/Enum", name := "ordinal", desc := "()I" } : Jvm.MethodName) jdk_37_method_2_code (1 : Nat) (Option.some Jvm.ClassFile.FieldType.int)]
set_option maxRecDepth 65536 in
theorem codes_eq : words1.filter isCode = codes1 := rfl
theorem w_codes : ∀ c ∈ words1.filter isCode, c.before args0 about1 = true := by
  rw [codes_eq]
  intro c hc
  simp only [codes1, List.mem_cons, List.not_mem_nil, or_false] at hc
  rcases hc with rfl | rfl | rfl | rfl
  · exact w_c0
  · exact w_c1
  · exact w_c2
  · exact w_c3
set_option maxRecDepth 65536 in
theorem w_t1 : (words1.take 24).all (fun c => isCode c || c.before args0 about1) = true := by decide +kernel
set_option maxRecDepth 65536 in
theorem w_t2 : (words1.drop 24).all (fun c => isCode c || c.before args0 about1) = true := by decide +kernel
theorem w_tables : (allAtoms (Jvm.Cond.code x code maxLocals ret :: tables_1)).before args0 about1 = true := by
  rw [allAtoms_all]
  show words1.all (fun c => c.before args0 about1) = true
  refine all_split ?_ w_codes
  rw [← List.take_append_drop 24 words1, List.all_append, w_t1, w_t2]
  rfl
set_option maxRecDepth 65536 in
theorem w_case : (Jvm.Cond.and given_1 narrow_1).before args0 about1 = true := by decide +kernel
theorem w_applies : (headSpec (Jvm.Cond.code x code maxLocals ret :: tables_1) room_1).applies x e0.platform about1 = true :=
  (Spec.applies_iff w_frames).mpr ⟨w_running, w_runnable, w_alone, w_named, w_hears, w_ripe, w_room, w_tables⟩
theorem atStart : AtStart classFile x code maxLocals ret World_1 tables_1 room_1 Calls_1 rest_1 Pre_1 launch0 p0 e0 about1 theMethod args0 below0 :=
  ⟨lists_1, trivial, launch0.admits_env _ _ _, launch0.least_env, fairChoices_fair.cas, fairChoices_fair.clock, w_frames, w_args, w_heap, w_applies, trivial, trivial, w_case⟩
end start1
theorem witness_1 : WitnessClaimed_1 := ⟨start1.p0, start1.e0, start1.about1, start1.theMethod, start1.args0, start1.below0, start1.atStart⟩
end Jvm.Pilot.@@N@@
