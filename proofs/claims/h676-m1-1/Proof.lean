import JvmDerived
import JvmDerived.Pilot.@@N@@Statement
import JvmDerived.Pilot.@@N@@Code
set_option linter.unusedVariables false
set_option linter.unusedSimpArgs false
@@BLOCK:NumsL.lean.txt@@
namespace Jvm.Pilot.@@N@@
open Jvm Jvm.ClassFile Sem Op Lib Jvm.Free Jvm.Stand Jvm.LawKit Jvm.RoadKit Bundle Jvm.Pilot.@@N@@.Jvm.D
/-- a term that the case says equals an int is worth that int -/
theorem own_eqI {args : Array Value} {s : State} {t : Term} {k : Int32} (h : (Jvm.Cond.eq t (.int k)).value args s none s [] = some true) : t.eval args s none [] s = some (.int k) := by
  obtain ⟨u, y, e1, e2, k1, k2⟩ := cmp_v (Or.inl h)
  obtain rfl : y = .int k := (Option.some.inj ((Term.int_eval k).symm.trans e2)).symm
  obtain ⟨z, rfl⟩ : ∃ z, u = .int z := k2
  have q : z = k := gotT (Cond.eq_ints e1 (Term.int_eval k)) h
  rw [e1, q]
/-- a term that the case says equals one that is worth an object is worth that object -/
theorem own_eqR {args : Array Value} {s : State} {t t' : Term} {b : Addr} (h : (Jvm.Cond.eq t t').value args s none s [] = some true) (hb : t'.eval args s none [] s = some (.ref b)) : t.eval args s none [] s = some (.ref b) := by
  obtain ⟨u, y, e1, e2, k1, k2⟩ := cmp_v (Or.inl h)
  obtain rfl : y = .ref b := (Option.some.inj (hb.symm.trans e2)).symm
  have q : u = .ref b := gotT (eq_R e1 hb k2.2 rfl) h
  rw [e1, q]
/-- two objects whose fields hold unlike values are unlike -/
theorem own_ne {s : State} {a b : Addr} {C n d : String} {v w : Value} (h1 : s.fieldOf? a C n d = some v) (h2 : s.fieldOf? b C n d = some w) (q : v ≠ w) : a ≠ b := fun e => by
  subst e; exact q (Option.some.inj (h1.symm.trans h2))
theorem own_pos (p : Int32) : 0 ≤ (p &&& (2147483647 : Int32)).toInt := by
  rw [Jvm.Kit.i32_mask p 2147483647 (k := 31) (by decide) (by decide)]; omega
theorem own_mod_lo (p n : Int32) (h : 0 < n.toInt) : 0 ≤ ((p &&& (2147483647 : Int32)) % n).toInt := by
  rw [Jvm.Kit.i32_rem_nonneg (own_pos p)]; exact Int.emod_nonneg _ (by omega)
theorem own_mod_hi (p n : Int32) (h : 0 < n.toInt) (k : Int) (hk : n.toInt = k) : ((p &&& (2147483647 : Int32)) % n).toInt < k := by
  rw [Jvm.Kit.i32_rem_nonneg (own_pos p), ← hk]; exact Int.emod_lt_of_pos _ h
theorem own_lt3 (z : Int32) (h1 : 0 ≤ z.toInt) (h2 : z.toInt < 3) : z = (0 : Int32) ∨ z = (1 : Int32) ∨ z = (2 : Int32) := by
  have e0 : (0 : Int32).toInt = 0 := by decide +kernel
  have e1 : (1 : Int32).toInt = 1 := by decide +kernel
  have e2 : (2 : Int32).toInt = 2 := by decide +kernel
  simp only [← Int32.toInt_inj]
  omega
theorem own_mod3 (p : Int32) : ((p &&& (2147483647 : Int32)) % (3 : Int32)) = (0 : Int32) ∨ ((p &&& (2147483647 : Int32)) % (3 : Int32)) = (1 : Int32) ∨ ((p &&& (2147483647 : Int32)) % (3 : Int32)) = (2 : Int32) :=
  own_lt3 _ (own_mod_lo p 3 (by decide +kernel)) (own_mod_hi p 3 (by decide +kernel) 3 (by decide +kernel))
theorem own_lt8 (z : Int32) (h1 : 0 ≤ z.toInt) (h2 : z.toInt < 8) : z = (0 : Int32) ∨ z = (1 : Int32) ∨ z = (2 : Int32) ∨ z = (3 : Int32) ∨ z = (4 : Int32) ∨ z = (5 : Int32) ∨ z = (6 : Int32) ∨ z = (7 : Int32) := by
  have e0 : (0 : Int32).toInt = 0 := by decide +kernel
  have e1 : (1 : Int32).toInt = 1 := by decide +kernel
  have e2 : (2 : Int32).toInt = 2 := by decide +kernel
  have e3 : (3 : Int32).toInt = 3 := by decide +kernel
  have e4 : (4 : Int32).toInt = 4 := by decide +kernel
  have e5 : (5 : Int32).toInt = 5 := by decide +kernel
  have e6 : (6 : Int32).toInt = 6 := by decide +kernel
  have e7 : (7 : Int32).toInt = 7 := by decide +kernel
  simp only [← Int32.toInt_inj]
  omega
theorem own_and8 (p : Int32) : (p &&& (7 : Int32)) = (0 : Int32) ∨ (p &&& (7 : Int32)) = (1 : Int32) ∨ (p &&& (7 : Int32)) = (2 : Int32) ∨ (p &&& (7 : Int32)) = (3 : Int32) ∨ (p &&& (7 : Int32)) = (4 : Int32) ∨ (p &&& (7 : Int32)) = (5 : Int32) ∨ (p &&& (7 : Int32)) = (6 : Int32) ∨ (p &&& (7 : Int32)) = (7 : Int32) := by
  have e := Jvm.Kit.i32_mask p 7 (k := 3) (by decide) (by decide)
  exact own_lt8 _ (by rw [e]; omega) (by rw [e]; omega)
theorem own_eight (p : Int32) : (p &&& (8 : Int32)) = (0 : Int32) ∨ (p &&& (8 : Int32)) = (8 : Int32) := by
  have h : ∀ b : BitVec 32, b &&& 8#32 = 0#32 ∨ b &&& 8#32 = 8#32 := fun b => by
    have e : 8#32 = BitVec.twoPow 32 3 := by decide
    rw [e, BitVec.and_twoPow]
    split
    · exact Or.inr rfl
    · exact Or.inl rfl
  rcases h p.toBitVec with q | q
  · exact Or.inl (Int32.toBitVec_inj.mp q)
  · exact Or.inr (Int32.toBitVec_inj.mp q)
theorem own_z {c : Int32} (h : c.toInt < 0) : ifCond.holds .lt c = true := (if0 _ _).trans (tlt (Int32.lt_iff_toInt_lt.mpr (by rw [Int32.toInt_zero]; exact h))).1
theorem own_zF {c : Int32} (h : 0 ≤ c.toInt) : ifCond.holds .lt c = false := (if0 _ _).trans (flt (fun q => by rw [Int32.lt_iff_toInt_lt, Int32.toInt_zero] at q; omega)).1
theorem own_l {c n : Int32} (h : c.toInt < n.toInt) : if_icmp.holds .lt c n = true := (tlt (Int32.lt_iff_toInt_lt.mpr h)).1
theorem own_lF {c n : Int32} (h : n.toInt ≤ c.toInt) : if_icmp.holds .lt c n = false := (flt (fun q => by rw [Int32.lt_iff_toInt_lt] at q; omega)).1
theorem own_g {c n : Int32} (h : n.toInt < c.toInt) : if_icmp.holds .gt c n = true := (tlt (Int32.lt_iff_toInt_lt.mpr h)).2.2.1
theorem own_gF {c n : Int32} (h : c.toInt ≤ n.toInt) : if_icmp.holds .gt c n = false := (flt (fun q => by rw [Int32.lt_iff_toInt_lt] at q; omega)).2.2.1
theorem own_e {c n : Int32} (h : c.toInt ≤ n.toInt) : if_icmp.holds .le c n = true := (flt (fun q => by rw [Int32.lt_iff_toInt_lt] at q; omega)).2.2.2
theorem own_eF {c n : Int32} (h : n.toInt < c.toInt) : if_icmp.holds .le c n = false := (tlt (Int32.lt_iff_toInt_lt.mpr h)).2.2.2

theorem d0_0 : decode method_2_code 0 = .ok (.iload_n 0, 1) := by decide +kernel
theorem d0_1 : decode method_2_code 1 = .ok (.ifCond .ne 5, 3) := by decide +kernel
theorem d0_4 : decode method_2_code 4 = .ok (.iconst 0, 1) := by decide +kernel
theorem d0_5 : decode method_2_code 5 = .ok (.ireturn, 1) := by decide +kernel
theorem d0_6 : decode method_2_code 6 = .ok (.iload_n 0, 1) := by decide +kernel
theorem d0_7 : decode method_2_code 7 = .ok (.iconst 1, 1) := by decide +kernel
theorem d0_8 : decode method_2_code 8 = .ok (.if_icmp .ne 6, 3) := by decide +kernel
theorem d0_11 : decode method_2_code 11 = .ok (.bipush 127, 2) := by decide +kernel
theorem d0_13 : decode method_2_code 13 = .ok (.ireturn, 1) := by decide +kernel
theorem d0_14 : decode method_2_code 14 = .ok (.iload_n 0, 1) := by decide +kernel
theorem d0_15 : decode method_2_code 15 = .ok (.iconst 2, 1) := by decide +kernel
theorem d0_16 : decode method_2_code 16 = .ok (.if_icmp .ne 6, 3) := by decide +kernel
theorem d0_19 : decode method_2_code 19 = .ok (.ldc 7, 2) := by decide +kernel
theorem d0_21 : decode method_2_code 21 = .ok (.ireturn, 1) := by decide +kernel
theorem d0_22 : decode method_2_code 22 = .ok (.iload_n 0, 1) := by decide +kernel
theorem d0_23 : decode method_2_code 23 = .ok (.iconst 3, 1) := by decide +kernel
theorem d0_24 : decode method_2_code 24 = .ok (.if_icmp .ne 6, 3) := by decide +kernel
theorem d0_27 : decode method_2_code 27 = .ok (.ldc 8, 2) := by decide +kernel
theorem d0_29 : decode method_2_code 29 = .ok (.ireturn, 1) := by decide +kernel
theorem d0_30 : decode method_2_code 30 = .ok (.iload_n 0, 1) := by decide +kernel
theorem d0_31 : decode method_2_code 31 = .ok (.iconst 4, 1) := by decide +kernel
theorem d0_32 : decode method_2_code 32 = .ok (.if_icmp .ne 6, 3) := by decide +kernel
theorem d0_35 : decode method_2_code 35 = .ok (.ldc 9, 2) := by decide +kernel
theorem d0_37 : decode method_2_code 37 = .ok (.ireturn, 1) := by decide +kernel
theorem d0_38 : decode method_2_code 38 = .ok (.iload_n 0, 1) := by decide +kernel
theorem d0_39 : decode method_2_code 39 = .ok (.iconst 5, 1) := by decide +kernel
theorem d0_40 : decode method_2_code 40 = .ok (.if_icmp .ne 6, 3) := by decide +kernel
theorem d0_43 : decode method_2_code 43 = .ok (.ldc 10, 2) := by decide +kernel
theorem d0_45 : decode method_2_code 45 = .ok (.ireturn, 1) := by decide +kernel
theorem d0_46 : decode method_2_code 46 = .ok (.iload_n 0, 1) := by decide +kernel
theorem d0_47 : decode method_2_code 47 = .ok (.bipush 6, 2) := by decide +kernel
theorem d0_49 : decode method_2_code 49 = .ok (.if_icmp .ne 6, 3) := by decide +kernel
theorem d0_52 : decode method_2_code 52 = .ok (.ldc 11, 2) := by decide +kernel
theorem d0_54 : decode method_2_code 54 = .ok (.ireturn, 1) := by decide +kernel
theorem d0_55 : decode method_2_code 55 = .ok (.ldc 14, 2) := by decide +kernel
theorem d0_57 : decode method_2_code 57 = .ok (.ireturn, 1) := by decide +kernel
theorem d1_0 : decode prog_37_method_5_code 0 = .ok (.iload_n 1, 1) := by decide +kernel
theorem d1_1 : decode prog_37_method_5_code 1 = .ok (.ifCond .lt 27, 3) := by decide +kernel
theorem d1_4 : decode prog_37_method_5_code 4 = .ok (.iload_n 1, 1) := by decide +kernel
theorem d1_5 : decode prog_37_method_5_code 5 = .ok (.aload_n 0, 1) := by decide +kernel
theorem d1_6 : decode prog_37_method_5_code 6 = .ok (.getfield 36, 3) := by decide +kernel
theorem d1_9 : decode prog_37_method_5_code 9 = .ok (.if_icmp .gt 19, 3) := by decide +kernel
theorem d1_12 : decode prog_37_method_5_code 12 = .ok (.iload_n 1, 1) := by decide +kernel
theorem d1_13 : decode prog_37_method_5_code 13 = .ok (.ldc 42, 2) := by decide +kernel
theorem d1_15 : decode prog_37_method_5_code 15 = .ok (.if_icmp .lt 9, 3) := by decide +kernel
theorem d1_18 : decode prog_37_method_5_code 18 = .ok (.iload_n 1, 1) := by decide +kernel
theorem d1_19 : decode prog_37_method_5_code 19 = .ok (.ldc 43, 2) := by decide +kernel
theorem d1_21 : decode prog_37_method_5_code 21 = .ok (.if_icmp .le 7, 3) := by decide +kernel
theorem d1_24 : decode prog_37_method_5_code 24 = .ok (.iconst 1, 1) := by decide +kernel
theorem d1_25 : decode prog_37_method_5_code 25 = .ok (.goto 4, 3) := by decide +kernel
theorem d1_28 : decode prog_37_method_5_code 28 = .ok (.iconst 0, 1) := by decide +kernel
theorem d1_29 : decode prog_37_method_5_code 29 = .ok (.ireturn, 1) := by decide +kernel
theorem pn0 : plainName "com/example/plainwire/plainwire/definitions/RepertoireHoldsPinLaw" = true := by first | (simp [plainName, overriddenIn]; done) | decide +kernel
theorem pn1 : plainName "com/example/plainwire/plainwire/definitions/Repertoire" = true := by first | (simp [plainName, overriddenIn]; done) | decide +kernel
theorem pn2 : plainName "com/example/plainwire/plainwire/definitions/RepertoireHoldsPinLaw" = true := by first | (simp [plainName, overriddenIn]; done) | decide +kernel
theorem pd0 : parseMethodDescriptor "(I)I" = some ⟨[.int], some .int⟩ := by decide +kernel
theorem pd1 : parseMethodDescriptor "(I)Z" = some ⟨[.int], some .boolean⟩ := by decide +kernel
def QV (val : Value) (h0 : Heap) (n0 : Nat) (v : Option Value) (h : Heap) (L : List Loc) : Prop := v = some val ∧ Fr n0 L ∧ h = h0
def Ctx (Z : State) (h0 : Heap) (s_IA5 : Addr) (s_BMP : Addr) (s_UTF8 : Addr) : Prop :=
  Sta Z h0 "com/example/plainwire/plainwire/definitions/Repertoire" "IA5" "Lcom/example/plainwire/plainwire/definitions/Repertoire;" (.ref s_IA5) ∧
  Exa Z h0 s_IA5 "com/example/plainwire/plainwire/definitions/Repertoire" ∧
  Fld Z h0 s_IA5 "com/example/plainwire/plainwire/definitions/Repertoire" "lastCodePoint" "I" (.int (127 : Int32)) ∧
  Sta Z h0 "com/example/plainwire/plainwire/definitions/Repertoire" "BMP" "Lcom/example/plainwire/plainwire/definitions/Repertoire;" (.ref s_BMP) ∧
  Exa Z h0 s_BMP "com/example/plainwire/plainwire/definitions/Repertoire" ∧
  Fld Z h0 s_BMP "com/example/plainwire/plainwire/definitions/Repertoire" "lastCodePoint" "I" (.int (65535 : Int32)) ∧
  Sta Z h0 "com/example/plainwire/plainwire/definitions/Repertoire" "UTF8" "Lcom/example/plainwire/plainwire/definitions/Repertoire;" (.ref s_UTF8) ∧
  Exa Z h0 s_UTF8 "com/example/plainwire/plainwire/definitions/Repertoire" ∧
  Fld Z h0 s_UTF8 "com/example/plainwire/plainwire/definitions/Repertoire" "lastCodePoint" "I" (.int (1114111 : Int32))

set_option maxRecDepth 65536 in
set_option maxHeartbeats 40000000 in
theorem r0 (l : Launch) (Z : State) (a0 : Array Value) (hw : ∀ d ∈ tables_1, d.before a0 Z = true) (ws : List Jvm.Cond) (h0 : Heap) (n0 : Nat) (s_IA5 : Addr) (s_BMP : Addr) (s_UTF8 : Addr) (K : Ctx Z h0 s_IA5 s_BMP s_UTF8) :
    MetFree l (⟨"com/example/plainwire/plainwire/definitions/RepertoireHoldsPinLaw", "boundary", "(I)I"⟩ : MethodName) (head1 (Jvm.Cond.code (⟨"com/example/plainwire/plainwire/definitions/RepertoireHoldsPinLaw", "boundary", "(I)I"⟩ : MethodName) method_2_code 1 (some .int) :: ws) ({ frames := 0, cells := 0, slots := 0, locals := 0 } : Room)) (fun a U => a = #[(.int (0 : Int32))] ∧ Z.Warmed39 U.vm ∧ U.heap = h0) (fun _ _ _ _ _ => True) (fun _ U o U' => ∃ v L, o = .returned v ∧ QV (.int (0 : Int32)) h0 n0 v U'.heap L ∧ FrameEnd U o U' L ({ frames := 0, cells := 0, slots := 0, locals := 0 } : Room).cells ({ frames := 0, cells := 0, slots := 0, locals := 0 } : Room).slots) := by
  obtain ⟨S_IA5, E_IA5, F_IA5_lastCodePoint, S_BMP, E_BMP, F_BMP_lastCodePoint, S_UTF8, E_UTF8, F_UTF8_lastCodePoint⟩ := id K
  refine MetFree.of_bodySF (plainFor_of_name pn0) hisR ?_
  intro p e s m args below meth c s₁ Bd hml0 hP hK
  obtain ⟨rfl, hZ, hh⟩ := hP
  have hx := Bd.exec
  have hby := Bd.bytes
  have hml : c.maxLocals = 1 := hml0
  have hown : s.vm.findClass "com/example/plainwire/plainwire/definitions/RepertoireHoldsPinLaw" = some m.cls := findClass_of_methodNamed Bd.named
  have X0 : Stand p l e ({ frames := 0, cells := 0, slots := 0, locals := 0 } : Room) s m #[(.int (0 : Int32))] below meth c s₁ [] 0 0 := Stand.of_body Bd
  have e0 : s₁.heap = h0 := by rw [← hh, Bd.state]; rfl
  have N0 := Fr.nil n0
  have pre0 : ∀ t, Steps p.tables e below (s₁.setTop (mkF m 0 #[.val (.int (0 : Int32))] [])) t → Steps p.tables e below (s₁.setTop (entryFrame m #[(.int (0 : Int32))] 1)) t := fun t k => castTop (by first | (simp [entryFrame, mkF, argsToLocals, Value.category]; done) | rfl) k
  obtain ⟨fs, hr, hrun, hended, hW, hsame⟩ := X0.leave (v := some (.int (0 : Int32))) (fun h => by rw [Bd.returns] at h; cases h)
  refine ⟨_, _, pre0 _ ?_, hrun, hended, _, _, rfl, ?_, ⟨_, rfl⟩, hW, hsame.mono (by decide) (by decide)⟩
  · show Steps p.tables e below (s₁.setTop (mkF m 0 #[.val (.int (0 : Int32))] [])) _
    refine XS.iloadN X0.here hx rfl (hb hby d0_0) rfl ?_
    show Steps p.tables e below (s₁.setTop (mkF m 1 #[.val (.int (0 : Int32))] [(.int (0 : Int32))])) _
    refine XS.ifNo X0.here hx rfl (hb hby d0_1) rfl (by decide +kernel) ?_
    show Steps p.tables e below (s₁.setTop (mkF m 4 #[.val (.int (0 : Int32))] [])) _
    refine XS.iconst X0.here hx rfl (hb hby d0_4) ?_
    show Steps p.tables e below (s₁.setTop (mkF m 5 #[.val (.int (0 : Int32))] [(.int (0 : Int32))])) _
    exact retOut X0 hx (i := .ireturn) Bd.returns rfl (Or.inl ⟨rfl, Or.inl rfl, _, rfl⟩) (hb hby d0_5) hr
  · exact ⟨rfl, N0, e0⟩
set_option maxRecDepth 65536 in
set_option maxHeartbeats 40000000 in
theorem r1 (l : Launch) (Z : State) (a0 : Array Value) (hw : ∀ d ∈ tables_1, d.before a0 Z = true) (ws : List Jvm.Cond) (h0 : Heap) (n0 : Nat) (s_IA5 : Addr) (s_BMP : Addr) (s_UTF8 : Addr) (K : Ctx Z h0 s_IA5 s_BMP s_UTF8) :
    MetFree l (⟨"com/example/plainwire/plainwire/definitions/RepertoireHoldsPinLaw", "boundary", "(I)I"⟩ : MethodName) (head1 (Jvm.Cond.code (⟨"com/example/plainwire/plainwire/definitions/RepertoireHoldsPinLaw", "boundary", "(I)I"⟩ : MethodName) method_2_code 1 (some .int) :: ws) ({ frames := 0, cells := 0, slots := 0, locals := 0 } : Room)) (fun a U => a = #[(.int (1 : Int32))] ∧ Z.Warmed39 U.vm ∧ U.heap = h0) (fun _ _ _ _ _ => True) (fun _ U o U' => ∃ v L, o = .returned v ∧ QV (.int (127 : Int32)) h0 n0 v U'.heap L ∧ FrameEnd U o U' L ({ frames := 0, cells := 0, slots := 0, locals := 0 } : Room).cells ({ frames := 0, cells := 0, slots := 0, locals := 0 } : Room).slots) := by
  obtain ⟨S_IA5, E_IA5, F_IA5_lastCodePoint, S_BMP, E_BMP, F_BMP_lastCodePoint, S_UTF8, E_UTF8, F_UTF8_lastCodePoint⟩ := id K
  refine MetFree.of_bodySF (plainFor_of_name pn0) hisR ?_
  intro p e s m args below meth c s₁ Bd hml0 hP hK
  obtain ⟨rfl, hZ, hh⟩ := hP
  have hx := Bd.exec
  have hby := Bd.bytes
  have hml : c.maxLocals = 1 := hml0
  have hown : s.vm.findClass "com/example/plainwire/plainwire/definitions/RepertoireHoldsPinLaw" = some m.cls := findClass_of_methodNamed Bd.named
  have X0 : Stand p l e ({ frames := 0, cells := 0, slots := 0, locals := 0 } : Room) s m #[(.int (1 : Int32))] below meth c s₁ [] 0 0 := Stand.of_body Bd
  have e0 : s₁.heap = h0 := by rw [← hh, Bd.state]; rfl
  have N0 := Fr.nil n0
  have pre0 : ∀ t, Steps p.tables e below (s₁.setTop (mkF m 0 #[.val (.int (1 : Int32))] [])) t → Steps p.tables e below (s₁.setTop (entryFrame m #[(.int (1 : Int32))] 1)) t := fun t k => castTop (by first | (simp [entryFrame, mkF, argsToLocals, Value.category]; done) | rfl) k
  obtain ⟨fs, hr, hrun, hended, hW, hsame⟩ := X0.leave (v := some (.int (127 : Int32))) (fun h => by rw [Bd.returns] at h; cases h)
  refine ⟨_, _, pre0 _ ?_, hrun, hended, _, _, rfl, ?_, ⟨_, rfl⟩, hW, hsame.mono (by decide) (by decide)⟩
  · show Steps p.tables e below (s₁.setTop (mkF m 0 #[.val (.int (1 : Int32))] [])) _
    refine XS.iloadN X0.here hx rfl (hb hby d0_0) rfl ?_
    show Steps p.tables e below (s₁.setTop (mkF m 1 #[.val (.int (1 : Int32))] [(.int (1 : Int32))])) _
    refine XS.ifYes X0.here hx rfl (pc0 := 1) (pc' := 6) rfl (hb hby d0_1) rfl (by decide +kernel) (by decide) (by decide) ?_
    show Steps p.tables e below (s₁.setTop (mkF m 6 #[.val (.int (1 : Int32))] [])) _
    refine XS.iloadN X0.here hx rfl (hb hby d0_6) rfl ?_
    show Steps p.tables e below (s₁.setTop (mkF m 7 #[.val (.int (1 : Int32))] [(.int (1 : Int32))])) _
    refine XS.iconst X0.here hx rfl (hb hby d0_7) ?_
    show Steps p.tables e below (s₁.setTop (mkF m 8 #[.val (.int (1 : Int32))] [(.int (1 : Int32)), (.int (1 : Int32))])) _
    refine XS.icmpNo X0.here hx rfl (hb hby d0_8) rfl (by decide +kernel) ?_
    show Steps p.tables e below (s₁.setTop (mkF m 11 #[.val (.int (1 : Int32))] [])) _
    refine XS.bipush X0.here hx rfl (hb hby d0_11) ?_
    show Steps p.tables e below (s₁.setTop (mkF m 13 #[.val (.int (1 : Int32))] [(.int (127 : Int32))])) _
    exact retOut X0 hx (i := .ireturn) Bd.returns rfl (Or.inl ⟨rfl, Or.inl rfl, _, rfl⟩) (hb hby d0_13) hr
  · exact ⟨rfl, N0, e0⟩
set_option maxRecDepth 65536 in
set_option maxHeartbeats 40000000 in
theorem r2 (l : Launch) (Z : State) (a0 : Array Value) (hw : ∀ d ∈ tables_1, d.before a0 Z = true) (ws : List Jvm.Cond) (h0 : Heap) (n0 : Nat) (s_IA5 : Addr) (s_BMP : Addr) (s_UTF8 : Addr) (K : Ctx Z h0 s_IA5 s_BMP s_UTF8) :
    MetFree l (⟨"com/example/plainwire/plainwire/definitions/RepertoireHoldsPinLaw", "boundary", "(I)I"⟩ : MethodName) (head1 (Jvm.Cond.code (⟨"com/example/plainwire/plainwire/definitions/RepertoireHoldsPinLaw", "boundary", "(I)I"⟩ : MethodName) method_2_code 1 (some .int) :: ws) ({ frames := 0, cells := 0, slots := 0, locals := 0 } : Room)) (fun a U => a = #[(.int (2 : Int32))] ∧ Z.Warmed39 U.vm ∧ U.heap = h0) (fun _ _ _ _ _ => True) (fun _ U o U' => ∃ v L, o = .returned v ∧ QV (.int (55296 : Int32)) h0 n0 v U'.heap L ∧ FrameEnd U o U' L ({ frames := 0, cells := 0, slots := 0, locals := 0 } : Room).cells ({ frames := 0, cells := 0, slots := 0, locals := 0 } : Room).slots) := by
  obtain ⟨S_IA5, E_IA5, F_IA5_lastCodePoint, S_BMP, E_BMP, F_BMP_lastCodePoint, S_UTF8, E_UTF8, F_UTF8_lastCodePoint⟩ := id K
  refine MetFree.of_bodySF (plainFor_of_name pn0) hisR ?_
  intro p e s m args below meth c s₁ Bd hml0 hP hK
  obtain ⟨rfl, hZ, hh⟩ := hP
  have hx := Bd.exec
  have hby := Bd.bytes
  have hml : c.maxLocals = 1 := hml0
  have hown : s.vm.findClass "com/example/plainwire/plainwire/definitions/RepertoireHoldsPinLaw" = some m.cls := findClass_of_methodNamed Bd.named
  have X0 : Stand p l e ({ frames := 0, cells := 0, slots := 0, locals := 0 } : Room) s m #[(.int (2 : Int32))] below meth c s₁ [] 0 0 := Stand.of_body Bd
  have e0 : s₁.heap = h0 := by rw [← hh, Bd.state]; rfl
  have N0 := Fr.nil n0
  have pre0 : ∀ t, Steps p.tables e below (s₁.setTop (mkF m 0 #[.val (.int (2 : Int32))] [])) t → Steps p.tables e below (s₁.setTop (entryFrame m #[(.int (2 : Int32))] 1)) t := fun t k => castTop (by first | (simp [entryFrame, mkF, argsToLocals, Value.category]; done) | rfl) k
  obtain ⟨fs, hr, hrun, hended, hW, hsame⟩ := X0.leave (v := some (.int (55296 : Int32))) (fun h => by rw [Bd.returns] at h; cases h)
  refine ⟨_, _, pre0 _ ?_, hrun, hended, _, _, rfl, ?_, ⟨_, rfl⟩, hW, hsame.mono (by decide) (by decide)⟩
  · show Steps p.tables e below (s₁.setTop (mkF m 0 #[.val (.int (2 : Int32))] [])) _
    refine XS.iloadN X0.here hx rfl (hb hby d0_0) rfl ?_
    show Steps p.tables e below (s₁.setTop (mkF m 1 #[.val (.int (2 : Int32))] [(.int (2 : Int32))])) _
    refine XS.ifYes X0.here hx rfl (pc0 := 1) (pc' := 6) rfl (hb hby d0_1) rfl (by decide +kernel) (by decide) (by decide) ?_
    show Steps p.tables e below (s₁.setTop (mkF m 6 #[.val (.int (2 : Int32))] [])) _
    refine XS.iloadN X0.here hx rfl (hb hby d0_6) rfl ?_
    show Steps p.tables e below (s₁.setTop (mkF m 7 #[.val (.int (2 : Int32))] [(.int (2 : Int32))])) _
    refine XS.iconst X0.here hx rfl (hb hby d0_7) ?_
    show Steps p.tables e below (s₁.setTop (mkF m 8 #[.val (.int (2 : Int32))] [(.int (1 : Int32)), (.int (2 : Int32))])) _
    refine XS.icmpYes X0.here hx rfl (pc0 := 8) (pc' := 14) rfl (hb hby d0_8) rfl (by decide +kernel) (by decide) (by decide) ?_
    show Steps p.tables e below (s₁.setTop (mkF m 14 #[.val (.int (2 : Int32))] [])) _
    refine XS.iloadN X0.here hx rfl (hb hby d0_14) rfl ?_
    show Steps p.tables e below (s₁.setTop (mkF m 15 #[.val (.int (2 : Int32))] [(.int (2 : Int32))])) _
    refine XS.iconst X0.here hx rfl (hb hby d0_15) ?_
    show Steps p.tables e below (s₁.setTop (mkF m 16 #[.val (.int (2 : Int32))] [(.int (2 : Int32)), (.int (2 : Int32))])) _
    refine XS.icmpNo X0.here hx rfl (hb hby d0_16) rfl (by decide +kernel) ?_
    show Steps p.tables e below (s₁.setTop (mkF m 19 #[.val (.int (2 : Int32))] [])) _
    refine X0.ldcInt hx hown (mvT hZ (hw _ (List.mem_of_getElem? (i := 8) rfl))) (g := (mkF m 19 #[.val (.int (2 : Int32))] [])) rfl (hb hby d0_19) _ ?_
    show Steps p.tables e below (s₁.setTop (mkF m 21 #[.val (.int (2 : Int32))] [(.int (55296 : Int32))])) _
    exact retOut X0 hx (i := .ireturn) Bd.returns rfl (Or.inl ⟨rfl, Or.inl rfl, _, rfl⟩) (hb hby d0_21) hr
  · exact ⟨rfl, N0, e0⟩
set_option maxRecDepth 65536 in
set_option maxHeartbeats 40000000 in
theorem r3 (l : Launch) (Z : State) (a0 : Array Value) (hw : ∀ d ∈ tables_1, d.before a0 Z = true) (ws : List Jvm.Cond) (h0 : Heap) (n0 : Nat) (s_IA5 : Addr) (s_BMP : Addr) (s_UTF8 : Addr) (K : Ctx Z h0 s_IA5 s_BMP s_UTF8) :
    MetFree l (⟨"com/example/plainwire/plainwire/definitions/RepertoireHoldsPinLaw", "boundary", "(I)I"⟩ : MethodName) (head1 (Jvm.Cond.code (⟨"com/example/plainwire/plainwire/definitions/RepertoireHoldsPinLaw", "boundary", "(I)I"⟩ : MethodName) method_2_code 1 (some .int) :: ws) ({ frames := 0, cells := 0, slots := 0, locals := 0 } : Room)) (fun a U => a = #[(.int (3 : Int32))] ∧ Z.Warmed39 U.vm ∧ U.heap = h0) (fun _ _ _ _ _ => True) (fun _ U o U' => ∃ v L, o = .returned v ∧ QV (.int (57343 : Int32)) h0 n0 v U'.heap L ∧ FrameEnd U o U' L ({ frames := 0, cells := 0, slots := 0, locals := 0 } : Room).cells ({ frames := 0, cells := 0, slots := 0, locals := 0 } : Room).slots) := by
  obtain ⟨S_IA5, E_IA5, F_IA5_lastCodePoint, S_BMP, E_BMP, F_BMP_lastCodePoint, S_UTF8, E_UTF8, F_UTF8_lastCodePoint⟩ := id K
  refine MetFree.of_bodySF (plainFor_of_name pn0) hisR ?_
  intro p e s m args below meth c s₁ Bd hml0 hP hK
  obtain ⟨rfl, hZ, hh⟩ := hP
  have hx := Bd.exec
  have hby := Bd.bytes
  have hml : c.maxLocals = 1 := hml0
  have hown : s.vm.findClass "com/example/plainwire/plainwire/definitions/RepertoireHoldsPinLaw" = some m.cls := findClass_of_methodNamed Bd.named
  have X0 : Stand p l e ({ frames := 0, cells := 0, slots := 0, locals := 0 } : Room) s m #[(.int (3 : Int32))] below meth c s₁ [] 0 0 := Stand.of_body Bd
  have e0 : s₁.heap = h0 := by rw [← hh, Bd.state]; rfl
  have N0 := Fr.nil n0
  have pre0 : ∀ t, Steps p.tables e below (s₁.setTop (mkF m 0 #[.val (.int (3 : Int32))] [])) t → Steps p.tables e below (s₁.setTop (entryFrame m #[(.int (3 : Int32))] 1)) t := fun t k => castTop (by first | (simp [entryFrame, mkF, argsToLocals, Value.category]; done) | rfl) k
  obtain ⟨fs, hr, hrun, hended, hW, hsame⟩ := X0.leave (v := some (.int (57343 : Int32))) (fun h => by rw [Bd.returns] at h; cases h)
  refine ⟨_, _, pre0 _ ?_, hrun, hended, _, _, rfl, ?_, ⟨_, rfl⟩, hW, hsame.mono (by decide) (by decide)⟩
  · show Steps p.tables e below (s₁.setTop (mkF m 0 #[.val (.int (3 : Int32))] [])) _
    refine XS.iloadN X0.here hx rfl (hb hby d0_0) rfl ?_
    show Steps p.tables e below (s₁.setTop (mkF m 1 #[.val (.int (3 : Int32))] [(.int (3 : Int32))])) _
    refine XS.ifYes X0.here hx rfl (pc0 := 1) (pc' := 6) rfl (hb hby d0_1) rfl (by decide +kernel) (by decide) (by decide) ?_
    show Steps p.tables e below (s₁.setTop (mkF m 6 #[.val (.int (3 : Int32))] [])) _
    refine XS.iloadN X0.here hx rfl (hb hby d0_6) rfl ?_
    show Steps p.tables e below (s₁.setTop (mkF m 7 #[.val (.int (3 : Int32))] [(.int (3 : Int32))])) _
    refine XS.iconst X0.here hx rfl (hb hby d0_7) ?_
    show Steps p.tables e below (s₁.setTop (mkF m 8 #[.val (.int (3 : Int32))] [(.int (1 : Int32)), (.int (3 : Int32))])) _
    refine XS.icmpYes X0.here hx rfl (pc0 := 8) (pc' := 14) rfl (hb hby d0_8) rfl (by decide +kernel) (by decide) (by decide) ?_
    show Steps p.tables e below (s₁.setTop (mkF m 14 #[.val (.int (3 : Int32))] [])) _
    refine XS.iloadN X0.here hx rfl (hb hby d0_14) rfl ?_
    show Steps p.tables e below (s₁.setTop (mkF m 15 #[.val (.int (3 : Int32))] [(.int (3 : Int32))])) _
    refine XS.iconst X0.here hx rfl (hb hby d0_15) ?_
    show Steps p.tables e below (s₁.setTop (mkF m 16 #[.val (.int (3 : Int32))] [(.int (2 : Int32)), (.int (3 : Int32))])) _
    refine XS.icmpYes X0.here hx rfl (pc0 := 16) (pc' := 22) rfl (hb hby d0_16) rfl (by decide +kernel) (by decide) (by decide) ?_
    show Steps p.tables e below (s₁.setTop (mkF m 22 #[.val (.int (3 : Int32))] [])) _
    refine XS.iloadN X0.here hx rfl (hb hby d0_22) rfl ?_
    show Steps p.tables e below (s₁.setTop (mkF m 23 #[.val (.int (3 : Int32))] [(.int (3 : Int32))])) _
    refine XS.iconst X0.here hx rfl (hb hby d0_23) ?_
    show Steps p.tables e below (s₁.setTop (mkF m 24 #[.val (.int (3 : Int32))] [(.int (3 : Int32)), (.int (3 : Int32))])) _
    refine XS.icmpNo X0.here hx rfl (hb hby d0_24) rfl (by decide +kernel) ?_
    show Steps p.tables e below (s₁.setTop (mkF m 27 #[.val (.int (3 : Int32))] [])) _
    refine X0.ldcInt hx hown (mvT hZ (hw _ (List.mem_of_getElem? (i := 18) rfl))) (g := (mkF m 27 #[.val (.int (3 : Int32))] [])) rfl (hb hby d0_27) _ ?_
    show Steps p.tables e below (s₁.setTop (mkF m 29 #[.val (.int (3 : Int32))] [(.int (57343 : Int32))])) _
    exact retOut X0 hx (i := .ireturn) Bd.returns rfl (Or.inl ⟨rfl, Or.inl rfl, _, rfl⟩) (hb hby d0_29) hr
  · exact ⟨rfl, N0, e0⟩
set_option maxRecDepth 65536 in
set_option maxHeartbeats 40000000 in
theorem r4 (l : Launch) (Z : State) (a0 : Array Value) (hw : ∀ d ∈ tables_1, d.before a0 Z = true) (ws : List Jvm.Cond) (h0 : Heap) (n0 : Nat) (s_IA5 : Addr) (s_BMP : Addr) (s_UTF8 : Addr) (K : Ctx Z h0 s_IA5 s_BMP s_UTF8) :
    MetFree l (⟨"com/example/plainwire/plainwire/definitions/RepertoireHoldsPinLaw", "boundary", "(I)I"⟩ : MethodName) (head1 (Jvm.Cond.code (⟨"com/example/plainwire/plainwire/definitions/RepertoireHoldsPinLaw", "boundary", "(I)I"⟩ : MethodName) method_2_code 1 (some .int) :: ws) ({ frames := 0, cells := 0, slots := 0, locals := 0 } : Room)) (fun a U => a = #[(.int (4 : Int32))] ∧ Z.Warmed39 U.vm ∧ U.heap = h0) (fun _ _ _ _ _ => True) (fun _ U o U' => ∃ v L, o = .returned v ∧ QV (.int (65535 : Int32)) h0 n0 v U'.heap L ∧ FrameEnd U o U' L ({ frames := 0, cells := 0, slots := 0, locals := 0 } : Room).cells ({ frames := 0, cells := 0, slots := 0, locals := 0 } : Room).slots) := by
  obtain ⟨S_IA5, E_IA5, F_IA5_lastCodePoint, S_BMP, E_BMP, F_BMP_lastCodePoint, S_UTF8, E_UTF8, F_UTF8_lastCodePoint⟩ := id K
  refine MetFree.of_bodySF (plainFor_of_name pn0) hisR ?_
  intro p e s m args below meth c s₁ Bd hml0 hP hK
  obtain ⟨rfl, hZ, hh⟩ := hP
  have hx := Bd.exec
  have hby := Bd.bytes
  have hml : c.maxLocals = 1 := hml0
  have hown : s.vm.findClass "com/example/plainwire/plainwire/definitions/RepertoireHoldsPinLaw" = some m.cls := findClass_of_methodNamed Bd.named
  have X0 : Stand p l e ({ frames := 0, cells := 0, slots := 0, locals := 0 } : Room) s m #[(.int (4 : Int32))] below meth c s₁ [] 0 0 := Stand.of_body Bd
  have e0 : s₁.heap = h0 := by rw [← hh, Bd.state]; rfl
  have N0 := Fr.nil n0
  have pre0 : ∀ t, Steps p.tables e below (s₁.setTop (mkF m 0 #[.val (.int (4 : Int32))] [])) t → Steps p.tables e below (s₁.setTop (entryFrame m #[(.int (4 : Int32))] 1)) t := fun t k => castTop (by first | (simp [entryFrame, mkF, argsToLocals, Value.category]; done) | rfl) k
  obtain ⟨fs, hr, hrun, hended, hW, hsame⟩ := X0.leave (v := some (.int (65535 : Int32))) (fun h => by rw [Bd.returns] at h; cases h)
  refine ⟨_, _, pre0 _ ?_, hrun, hended, _, _, rfl, ?_, ⟨_, rfl⟩, hW, hsame.mono (by decide) (by decide)⟩
  · show Steps p.tables e below (s₁.setTop (mkF m 0 #[.val (.int (4 : Int32))] [])) _
    refine XS.iloadN X0.here hx rfl (hb hby d0_0) rfl ?_
    show Steps p.tables e below (s₁.setTop (mkF m 1 #[.val (.int (4 : Int32))] [(.int (4 : Int32))])) _
    refine XS.ifYes X0.here hx rfl (pc0 := 1) (pc' := 6) rfl (hb hby d0_1) rfl (by decide +kernel) (by decide) (by decide) ?_
    show Steps p.tables e below (s₁.setTop (mkF m 6 #[.val (.int (4 : Int32))] [])) _
    refine XS.iloadN X0.here hx rfl (hb hby d0_6) rfl ?_
    show Steps p.tables e below (s₁.setTop (mkF m 7 #[.val (.int (4 : Int32))] [(.int (4 : Int32))])) _
    refine XS.iconst X0.here hx rfl (hb hby d0_7) ?_
    show Steps p.tables e below (s₁.setTop (mkF m 8 #[.val (.int (4 : Int32))] [(.int (1 : Int32)), (.int (4 : Int32))])) _
    refine XS.icmpYes X0.here hx rfl (pc0 := 8) (pc' := 14) rfl (hb hby d0_8) rfl (by decide +kernel) (by decide) (by decide) ?_
    show Steps p.tables e below (s₁.setTop (mkF m 14 #[.val (.int (4 : Int32))] [])) _
    refine XS.iloadN X0.here hx rfl (hb hby d0_14) rfl ?_
    show Steps p.tables e below (s₁.setTop (mkF m 15 #[.val (.int (4 : Int32))] [(.int (4 : Int32))])) _
    refine XS.iconst X0.here hx rfl (hb hby d0_15) ?_
    show Steps p.tables e below (s₁.setTop (mkF m 16 #[.val (.int (4 : Int32))] [(.int (2 : Int32)), (.int (4 : Int32))])) _
    refine XS.icmpYes X0.here hx rfl (pc0 := 16) (pc' := 22) rfl (hb hby d0_16) rfl (by decide +kernel) (by decide) (by decide) ?_
    show Steps p.tables e below (s₁.setTop (mkF m 22 #[.val (.int (4 : Int32))] [])) _
    refine XS.iloadN X0.here hx rfl (hb hby d0_22) rfl ?_
    show Steps p.tables e below (s₁.setTop (mkF m 23 #[.val (.int (4 : Int32))] [(.int (4 : Int32))])) _
    refine XS.iconst X0.here hx rfl (hb hby d0_23) ?_
    show Steps p.tables e below (s₁.setTop (mkF m 24 #[.val (.int (4 : Int32))] [(.int (3 : Int32)), (.int (4 : Int32))])) _
    refine XS.icmpYes X0.here hx rfl (pc0 := 24) (pc' := 30) rfl (hb hby d0_24) rfl (by decide +kernel) (by decide) (by decide) ?_
    show Steps p.tables e below (s₁.setTop (mkF m 30 #[.val (.int (4 : Int32))] [])) _
    refine XS.iloadN X0.here hx rfl (hb hby d0_30) rfl ?_
    show Steps p.tables e below (s₁.setTop (mkF m 31 #[.val (.int (4 : Int32))] [(.int (4 : Int32))])) _
    refine XS.iconst X0.here hx rfl (hb hby d0_31) ?_
    show Steps p.tables e below (s₁.setTop (mkF m 32 #[.val (.int (4 : Int32))] [(.int (4 : Int32)), (.int (4 : Int32))])) _
    refine XS.icmpNo X0.here hx rfl (hb hby d0_32) rfl (by decide +kernel) ?_
    show Steps p.tables e below (s₁.setTop (mkF m 35 #[.val (.int (4 : Int32))] [])) _
    refine X0.ldcInt hx hown (mvT hZ (hw _ (List.mem_of_getElem? (i := 20) rfl))) (g := (mkF m 35 #[.val (.int (4 : Int32))] [])) rfl (hb hby d0_35) _ ?_
    show Steps p.tables e below (s₁.setTop (mkF m 37 #[.val (.int (4 : Int32))] [(.int (65535 : Int32))])) _
    exact retOut X0 hx (i := .ireturn) Bd.returns rfl (Or.inl ⟨rfl, Or.inl rfl, _, rfl⟩) (hb hby d0_37) hr
  · exact ⟨rfl, N0, e0⟩
set_option maxRecDepth 65536 in
set_option maxHeartbeats 40000000 in
theorem r5 (l : Launch) (Z : State) (a0 : Array Value) (hw : ∀ d ∈ tables_1, d.before a0 Z = true) (ws : List Jvm.Cond) (h0 : Heap) (n0 : Nat) (s_IA5 : Addr) (s_BMP : Addr) (s_UTF8 : Addr) (K : Ctx Z h0 s_IA5 s_BMP s_UTF8) :
    MetFree l (⟨"com/example/plainwire/plainwire/definitions/RepertoireHoldsPinLaw", "boundary", "(I)I"⟩ : MethodName) (head1 (Jvm.Cond.code (⟨"com/example/plainwire/plainwire/definitions/RepertoireHoldsPinLaw", "boundary", "(I)I"⟩ : MethodName) method_2_code 1 (some .int) :: ws) ({ frames := 0, cells := 0, slots := 0, locals := 0 } : Room)) (fun a U => a = #[(.int (5 : Int32))] ∧ Z.Warmed39 U.vm ∧ U.heap = h0) (fun _ _ _ _ _ => True) (fun _ U o U' => ∃ v L, o = .returned v ∧ QV (.int (1114111 : Int32)) h0 n0 v U'.heap L ∧ FrameEnd U o U' L ({ frames := 0, cells := 0, slots := 0, locals := 0 } : Room).cells ({ frames := 0, cells := 0, slots := 0, locals := 0 } : Room).slots) := by
  obtain ⟨S_IA5, E_IA5, F_IA5_lastCodePoint, S_BMP, E_BMP, F_BMP_lastCodePoint, S_UTF8, E_UTF8, F_UTF8_lastCodePoint⟩ := id K
  refine MetFree.of_bodySF (plainFor_of_name pn0) hisR ?_
  intro p e s m args below meth c s₁ Bd hml0 hP hK
  obtain ⟨rfl, hZ, hh⟩ := hP
  have hx := Bd.exec
  have hby := Bd.bytes
  have hml : c.maxLocals = 1 := hml0
  have hown : s.vm.findClass "com/example/plainwire/plainwire/definitions/RepertoireHoldsPinLaw" = some m.cls := findClass_of_methodNamed Bd.named
  have X0 : Stand p l e ({ frames := 0, cells := 0, slots := 0, locals := 0 } : Room) s m #[(.int (5 : Int32))] below meth c s₁ [] 0 0 := Stand.of_body Bd
  have e0 : s₁.heap = h0 := by rw [← hh, Bd.state]; rfl
  have N0 := Fr.nil n0
  have pre0 : ∀ t, Steps p.tables e below (s₁.setTop (mkF m 0 #[.val (.int (5 : Int32))] [])) t → Steps p.tables e below (s₁.setTop (entryFrame m #[(.int (5 : Int32))] 1)) t := fun t k => castTop (by first | (simp [entryFrame, mkF, argsToLocals, Value.category]; done) | rfl) k
  obtain ⟨fs, hr, hrun, hended, hW, hsame⟩ := X0.leave (v := some (.int (1114111 : Int32))) (fun h => by rw [Bd.returns] at h; cases h)
  refine ⟨_, _, pre0 _ ?_, hrun, hended, _, _, rfl, ?_, ⟨_, rfl⟩, hW, hsame.mono (by decide) (by decide)⟩
  · show Steps p.tables e below (s₁.setTop (mkF m 0 #[.val (.int (5 : Int32))] [])) _
    refine XS.iloadN X0.here hx rfl (hb hby d0_0) rfl ?_
    show Steps p.tables e below (s₁.setTop (mkF m 1 #[.val (.int (5 : Int32))] [(.int (5 : Int32))])) _
    refine XS.ifYes X0.here hx rfl (pc0 := 1) (pc' := 6) rfl (hb hby d0_1) rfl (by decide +kernel) (by decide) (by decide) ?_
    show Steps p.tables e below (s₁.setTop (mkF m 6 #[.val (.int (5 : Int32))] [])) _
    refine XS.iloadN X0.here hx rfl (hb hby d0_6) rfl ?_
    show Steps p.tables e below (s₁.setTop (mkF m 7 #[.val (.int (5 : Int32))] [(.int (5 : Int32))])) _
    refine XS.iconst X0.here hx rfl (hb hby d0_7) ?_
    show Steps p.tables e below (s₁.setTop (mkF m 8 #[.val (.int (5 : Int32))] [(.int (1 : Int32)), (.int (5 : Int32))])) _
    refine XS.icmpYes X0.here hx rfl (pc0 := 8) (pc' := 14) rfl (hb hby d0_8) rfl (by decide +kernel) (by decide) (by decide) ?_
    show Steps p.tables e below (s₁.setTop (mkF m 14 #[.val (.int (5 : Int32))] [])) _
    refine XS.iloadN X0.here hx rfl (hb hby d0_14) rfl ?_
    show Steps p.tables e below (s₁.setTop (mkF m 15 #[.val (.int (5 : Int32))] [(.int (5 : Int32))])) _
    refine XS.iconst X0.here hx rfl (hb hby d0_15) ?_
    show Steps p.tables e below (s₁.setTop (mkF m 16 #[.val (.int (5 : Int32))] [(.int (2 : Int32)), (.int (5 : Int32))])) _
    refine XS.icmpYes X0.here hx rfl (pc0 := 16) (pc' := 22) rfl (hb hby d0_16) rfl (by decide +kernel) (by decide) (by decide) ?_
    show Steps p.tables e below (s₁.setTop (mkF m 22 #[.val (.int (5 : Int32))] [])) _
    refine XS.iloadN X0.here hx rfl (hb hby d0_22) rfl ?_
    show Steps p.tables e below (s₁.setTop (mkF m 23 #[.val (.int (5 : Int32))] [(.int (5 : Int32))])) _
    refine XS.iconst X0.here hx rfl (hb hby d0_23) ?_
    show Steps p.tables e below (s₁.setTop (mkF m 24 #[.val (.int (5 : Int32))] [(.int (3 : Int32)), (.int (5 : Int32))])) _
    refine XS.icmpYes X0.here hx rfl (pc0 := 24) (pc' := 30) rfl (hb hby d0_24) rfl (by decide +kernel) (by decide) (by decide) ?_
    show Steps p.tables e below (s₁.setTop (mkF m 30 #[.val (.int (5 : Int32))] [])) _
    refine XS.iloadN X0.here hx rfl (hb hby d0_30) rfl ?_
    show Steps p.tables e below (s₁.setTop (mkF m 31 #[.val (.int (5 : Int32))] [(.int (5 : Int32))])) _
    refine XS.iconst X0.here hx rfl (hb hby d0_31) ?_
    show Steps p.tables e below (s₁.setTop (mkF m 32 #[.val (.int (5 : Int32))] [(.int (4 : Int32)), (.int (5 : Int32))])) _
    refine XS.icmpYes X0.here hx rfl (pc0 := 32) (pc' := 38) rfl (hb hby d0_32) rfl (by decide +kernel) (by decide) (by decide) ?_
    show Steps p.tables e below (s₁.setTop (mkF m 38 #[.val (.int (5 : Int32))] [])) _
    refine XS.iloadN X0.here hx rfl (hb hby d0_38) rfl ?_
    show Steps p.tables e below (s₁.setTop (mkF m 39 #[.val (.int (5 : Int32))] [(.int (5 : Int32))])) _
    refine XS.iconst X0.here hx rfl (hb hby d0_39) ?_
    show Steps p.tables e below (s₁.setTop (mkF m 40 #[.val (.int (5 : Int32))] [(.int (5 : Int32)), (.int (5 : Int32))])) _
    refine XS.icmpNo X0.here hx rfl (hb hby d0_40) rfl (by decide +kernel) ?_
    show Steps p.tables e below (s₁.setTop (mkF m 43 #[.val (.int (5 : Int32))] [])) _
    refine X0.ldcInt hx hown (mvT hZ (hw _ (List.mem_of_getElem? (i := 25) rfl))) (g := (mkF m 43 #[.val (.int (5 : Int32))] [])) rfl (hb hby d0_43) _ ?_
    show Steps p.tables e below (s₁.setTop (mkF m 45 #[.val (.int (5 : Int32))] [(.int (1114111 : Int32))])) _
    exact retOut X0 hx (i := .ireturn) Bd.returns rfl (Or.inl ⟨rfl, Or.inl rfl, _, rfl⟩) (hb hby d0_45) hr
  · exact ⟨rfl, N0, e0⟩
set_option maxRecDepth 65536 in
set_option maxHeartbeats 40000000 in
theorem r6 (l : Launch) (Z : State) (a0 : Array Value) (hw : ∀ d ∈ tables_1, d.before a0 Z = true) (ws : List Jvm.Cond) (h0 : Heap) (n0 : Nat) (s_IA5 : Addr) (s_BMP : Addr) (s_UTF8 : Addr) (K : Ctx Z h0 s_IA5 s_BMP s_UTF8) :
    MetFree l (⟨"com/example/plainwire/plainwire/definitions/RepertoireHoldsPinLaw", "boundary", "(I)I"⟩ : MethodName) (head1 (Jvm.Cond.code (⟨"com/example/plainwire/plainwire/definitions/RepertoireHoldsPinLaw", "boundary", "(I)I"⟩ : MethodName) method_2_code 1 (some .int) :: ws) ({ frames := 0, cells := 0, slots := 0, locals := 0 } : Room)) (fun a U => a = #[(.int (6 : Int32))] ∧ Z.Warmed39 U.vm ∧ U.heap = h0) (fun _ _ _ _ _ => True) (fun _ U o U' => ∃ v L, o = .returned v ∧ QV (.int (57344 : Int32)) h0 n0 v U'.heap L ∧ FrameEnd U o U' L ({ frames := 0, cells := 0, slots := 0, locals := 0 } : Room).cells ({ frames := 0, cells := 0, slots := 0, locals := 0 } : Room).slots) := by
  obtain ⟨S_IA5, E_IA5, F_IA5_lastCodePoint, S_BMP, E_BMP, F_BMP_lastCodePoint, S_UTF8, E_UTF8, F_UTF8_lastCodePoint⟩ := id K
  refine MetFree.of_bodySF (plainFor_of_name pn0) hisR ?_
  intro p e s m args below meth c s₁ Bd hml0 hP hK
  obtain ⟨rfl, hZ, hh⟩ := hP
  have hx := Bd.exec
  have hby := Bd.bytes
  have hml : c.maxLocals = 1 := hml0
  have hown : s.vm.findClass "com/example/plainwire/plainwire/definitions/RepertoireHoldsPinLaw" = some m.cls := findClass_of_methodNamed Bd.named
  have X0 : Stand p l e ({ frames := 0, cells := 0, slots := 0, locals := 0 } : Room) s m #[(.int (6 : Int32))] below meth c s₁ [] 0 0 := Stand.of_body Bd
  have e0 : s₁.heap = h0 := by rw [← hh, Bd.state]; rfl
  have N0 := Fr.nil n0
  have pre0 : ∀ t, Steps p.tables e below (s₁.setTop (mkF m 0 #[.val (.int (6 : Int32))] [])) t → Steps p.tables e below (s₁.setTop (entryFrame m #[(.int (6 : Int32))] 1)) t := fun t k => castTop (by first | (simp [entryFrame, mkF, argsToLocals, Value.category]; done) | rfl) k
  obtain ⟨fs, hr, hrun, hended, hW, hsame⟩ := X0.leave (v := some (.int (57344 : Int32))) (fun h => by rw [Bd.returns] at h; cases h)
  refine ⟨_, _, pre0 _ ?_, hrun, hended, _, _, rfl, ?_, ⟨_, rfl⟩, hW, hsame.mono (by decide) (by decide)⟩
  · show Steps p.tables e below (s₁.setTop (mkF m 0 #[.val (.int (6 : Int32))] [])) _
    refine XS.iloadN X0.here hx rfl (hb hby d0_0) rfl ?_
    show Steps p.tables e below (s₁.setTop (mkF m 1 #[.val (.int (6 : Int32))] [(.int (6 : Int32))])) _
    refine XS.ifYes X0.here hx rfl (pc0 := 1) (pc' := 6) rfl (hb hby d0_1) rfl (by decide +kernel) (by decide) (by decide) ?_
    show Steps p.tables e below (s₁.setTop (mkF m 6 #[.val (.int (6 : Int32))] [])) _
    refine XS.iloadN X0.here hx rfl (hb hby d0_6) rfl ?_
    show Steps p.tables e below (s₁.setTop (mkF m 7 #[.val (.int (6 : Int32))] [(.int (6 : Int32))])) _
    refine XS.iconst X0.here hx rfl (hb hby d0_7) ?_
    show Steps p.tables e below (s₁.setTop (mkF m 8 #[.val (.int (6 : Int32))] [(.int (1 : Int32)), (.int (6 : Int32))])) _
    refine XS.icmpYes X0.here hx rfl (pc0 := 8) (pc' := 14) rfl (hb hby d0_8) rfl (by decide +kernel) (by decide) (by decide) ?_
    show Steps p.tables e below (s₁.setTop (mkF m 14 #[.val (.int (6 : Int32))] [])) _
    refine XS.iloadN X0.here hx rfl (hb hby d0_14) rfl ?_
    show Steps p.tables e below (s₁.setTop (mkF m 15 #[.val (.int (6 : Int32))] [(.int (6 : Int32))])) _
    refine XS.iconst X0.here hx rfl (hb hby d0_15) ?_
    show Steps p.tables e below (s₁.setTop (mkF m 16 #[.val (.int (6 : Int32))] [(.int (2 : Int32)), (.int (6 : Int32))])) _
    refine XS.icmpYes X0.here hx rfl (pc0 := 16) (pc' := 22) rfl (hb hby d0_16) rfl (by decide +kernel) (by decide) (by decide) ?_
    show Steps p.tables e below (s₁.setTop (mkF m 22 #[.val (.int (6 : Int32))] [])) _
    refine XS.iloadN X0.here hx rfl (hb hby d0_22) rfl ?_
    show Steps p.tables e below (s₁.setTop (mkF m 23 #[.val (.int (6 : Int32))] [(.int (6 : Int32))])) _
    refine XS.iconst X0.here hx rfl (hb hby d0_23) ?_
    show Steps p.tables e below (s₁.setTop (mkF m 24 #[.val (.int (6 : Int32))] [(.int (3 : Int32)), (.int (6 : Int32))])) _
    refine XS.icmpYes X0.here hx rfl (pc0 := 24) (pc' := 30) rfl (hb hby d0_24) rfl (by decide +kernel) (by decide) (by decide) ?_
    show Steps p.tables e below (s₁.setTop (mkF m 30 #[.val (.int (6 : Int32))] [])) _
    refine XS.iloadN X0.here hx rfl (hb hby d0_30) rfl ?_
    show Steps p.tables e below (s₁.setTop (mkF m 31 #[.val (.int (6 : Int32))] [(.int (6 : Int32))])) _
    refine XS.iconst X0.here hx rfl (hb hby d0_31) ?_
    show Steps p.tables e below (s₁.setTop (mkF m 32 #[.val (.int (6 : Int32))] [(.int (4 : Int32)), (.int (6 : Int32))])) _
    refine XS.icmpYes X0.here hx rfl (pc0 := 32) (pc' := 38) rfl (hb hby d0_32) rfl (by decide +kernel) (by decide) (by decide) ?_
    show Steps p.tables e below (s₁.setTop (mkF m 38 #[.val (.int (6 : Int32))] [])) _
    refine XS.iloadN X0.here hx rfl (hb hby d0_38) rfl ?_
    show Steps p.tables e below (s₁.setTop (mkF m 39 #[.val (.int (6 : Int32))] [(.int (6 : Int32))])) _
    refine XS.iconst X0.here hx rfl (hb hby d0_39) ?_
    show Steps p.tables e below (s₁.setTop (mkF m 40 #[.val (.int (6 : Int32))] [(.int (5 : Int32)), (.int (6 : Int32))])) _
    refine XS.icmpYes X0.here hx rfl (pc0 := 40) (pc' := 46) rfl (hb hby d0_40) rfl (by decide +kernel) (by decide) (by decide) ?_
    show Steps p.tables e below (s₁.setTop (mkF m 46 #[.val (.int (6 : Int32))] [])) _
    refine XS.iloadN X0.here hx rfl (hb hby d0_46) rfl ?_
    show Steps p.tables e below (s₁.setTop (mkF m 47 #[.val (.int (6 : Int32))] [(.int (6 : Int32))])) _
    refine XS.bipush X0.here hx rfl (hb hby d0_47) ?_
    show Steps p.tables e below (s₁.setTop (mkF m 49 #[.val (.int (6 : Int32))] [(.int (6 : Int32)), (.int (6 : Int32))])) _
    refine XS.icmpNo X0.here hx rfl (hb hby d0_49) rfl (by decide +kernel) ?_
    show Steps p.tables e below (s₁.setTop (mkF m 52 #[.val (.int (6 : Int32))] [])) _
    refine X0.ldcInt hx hown (mvT hZ (hw _ (List.mem_of_getElem? (i := 19) rfl))) (g := (mkF m 52 #[.val (.int (6 : Int32))] [])) rfl (hb hby d0_52) _ ?_
    show Steps p.tables e below (s₁.setTop (mkF m 54 #[.val (.int (6 : Int32))] [(.int (57344 : Int32))])) _
    exact retOut X0 hx (i := .ireturn) Bd.returns rfl (Or.inl ⟨rfl, Or.inl rfl, _, rfl⟩) (hb hby d0_54) hr
  · exact ⟨rfl, N0, e0⟩
set_option maxRecDepth 65536 in
set_option maxHeartbeats 40000000 in
theorem r7 (l : Launch) (Z : State) (a0 : Array Value) (hw : ∀ d ∈ tables_1, d.before a0 Z = true) (ws : List Jvm.Cond) (h0 : Heap) (n0 : Nat) (s_IA5 : Addr) (s_BMP : Addr) (s_UTF8 : Addr) (K : Ctx Z h0 s_IA5 s_BMP s_UTF8) :
    MetFree l (⟨"com/example/plainwire/plainwire/definitions/RepertoireHoldsPinLaw", "boundary", "(I)I"⟩ : MethodName) (head1 (Jvm.Cond.code (⟨"com/example/plainwire/plainwire/definitions/RepertoireHoldsPinLaw", "boundary", "(I)I"⟩ : MethodName) method_2_code 1 (some .int) :: ws) ({ frames := 0, cells := 0, slots := 0, locals := 0 } : Room)) (fun a U => a = #[(.int (7 : Int32))] ∧ Z.Warmed39 U.vm ∧ U.heap = h0) (fun _ _ _ _ _ => True) (fun _ U o U' => ∃ v L, o = .returned v ∧ QV (.int (-2147483648 : Int32)) h0 n0 v U'.heap L ∧ FrameEnd U o U' L ({ frames := 0, cells := 0, slots := 0, locals := 0 } : Room).cells ({ frames := 0, cells := 0, slots := 0, locals := 0 } : Room).slots) := by
  obtain ⟨S_IA5, E_IA5, F_IA5_lastCodePoint, S_BMP, E_BMP, F_BMP_lastCodePoint, S_UTF8, E_UTF8, F_UTF8_lastCodePoint⟩ := id K
  refine MetFree.of_bodySF (plainFor_of_name pn0) hisR ?_
  intro p e s m args below meth c s₁ Bd hml0 hP hK
  obtain ⟨rfl, hZ, hh⟩ := hP
  have hx := Bd.exec
  have hby := Bd.bytes
  have hml : c.maxLocals = 1 := hml0
  have hown : s.vm.findClass "com/example/plainwire/plainwire/definitions/RepertoireHoldsPinLaw" = some m.cls := findClass_of_methodNamed Bd.named
  have X0 : Stand p l e ({ frames := 0, cells := 0, slots := 0, locals := 0 } : Room) s m #[(.int (7 : Int32))] below meth c s₁ [] 0 0 := Stand.of_body Bd
  have e0 : s₁.heap = h0 := by rw [← hh, Bd.state]; rfl
  have N0 := Fr.nil n0
  have pre0 : ∀ t, Steps p.tables e below (s₁.setTop (mkF m 0 #[.val (.int (7 : Int32))] [])) t → Steps p.tables e below (s₁.setTop (entryFrame m #[(.int (7 : Int32))] 1)) t := fun t k => castTop (by first | (simp [entryFrame, mkF, argsToLocals, Value.category]; done) | rfl) k
  obtain ⟨fs, hr, hrun, hended, hW, hsame⟩ := X0.leave (v := some (.int (-2147483648 : Int32))) (fun h => by rw [Bd.returns] at h; cases h)
  refine ⟨_, _, pre0 _ ?_, hrun, hended, _, _, rfl, ?_, ⟨_, rfl⟩, hW, hsame.mono (by decide) (by decide)⟩
  · show Steps p.tables e below (s₁.setTop (mkF m 0 #[.val (.int (7 : Int32))] [])) _
    refine XS.iloadN X0.here hx rfl (hb hby d0_0) rfl ?_
    show Steps p.tables e below (s₁.setTop (mkF m 1 #[.val (.int (7 : Int32))] [(.int (7 : Int32))])) _
    refine XS.ifYes X0.here hx rfl (pc0 := 1) (pc' := 6) rfl (hb hby d0_1) rfl (by decide +kernel) (by decide) (by decide) ?_
    show Steps p.tables e below (s₁.setTop (mkF m 6 #[.val (.int (7 : Int32))] [])) _
    refine XS.iloadN X0.here hx rfl (hb hby d0_6) rfl ?_
    show Steps p.tables e below (s₁.setTop (mkF m 7 #[.val (.int (7 : Int32))] [(.int (7 : Int32))])) _
    refine XS.iconst X0.here hx rfl (hb hby d0_7) ?_
    show Steps p.tables e below (s₁.setTop (mkF m 8 #[.val (.int (7 : Int32))] [(.int (1 : Int32)), (.int (7 : Int32))])) _
    refine XS.icmpYes X0.here hx rfl (pc0 := 8) (pc' := 14) rfl (hb hby d0_8) rfl (by decide +kernel) (by decide) (by decide) ?_
    show Steps p.tables e below (s₁.setTop (mkF m 14 #[.val (.int (7 : Int32))] [])) _
    refine XS.iloadN X0.here hx rfl (hb hby d0_14) rfl ?_
    show Steps p.tables e below (s₁.setTop (mkF m 15 #[.val (.int (7 : Int32))] [(.int (7 : Int32))])) _
    refine XS.iconst X0.here hx rfl (hb hby d0_15) ?_
    show Steps p.tables e below (s₁.setTop (mkF m 16 #[.val (.int (7 : Int32))] [(.int (2 : Int32)), (.int (7 : Int32))])) _
    refine XS.icmpYes X0.here hx rfl (pc0 := 16) (pc' := 22) rfl (hb hby d0_16) rfl (by decide +kernel) (by decide) (by decide) ?_
    show Steps p.tables e below (s₁.setTop (mkF m 22 #[.val (.int (7 : Int32))] [])) _
    refine XS.iloadN X0.here hx rfl (hb hby d0_22) rfl ?_
    show Steps p.tables e below (s₁.setTop (mkF m 23 #[.val (.int (7 : Int32))] [(.int (7 : Int32))])) _
    refine XS.iconst X0.here hx rfl (hb hby d0_23) ?_
    show Steps p.tables e below (s₁.setTop (mkF m 24 #[.val (.int (7 : Int32))] [(.int (3 : Int32)), (.int (7 : Int32))])) _
    refine XS.icmpYes X0.here hx rfl (pc0 := 24) (pc' := 30) rfl (hb hby d0_24) rfl (by decide +kernel) (by decide) (by decide) ?_
    show Steps p.tables e below (s₁.setTop (mkF m 30 #[.val (.int (7 : Int32))] [])) _
    refine XS.iloadN X0.here hx rfl (hb hby d0_30) rfl ?_
    show Steps p.tables e below (s₁.setTop (mkF m 31 #[.val (.int (7 : Int32))] [(.int (7 : Int32))])) _
    refine XS.iconst X0.here hx rfl (hb hby d0_31) ?_
    show Steps p.tables e below (s₁.setTop (mkF m 32 #[.val (.int (7 : Int32))] [(.int (4 : Int32)), (.int (7 : Int32))])) _
    refine XS.icmpYes X0.here hx rfl (pc0 := 32) (pc' := 38) rfl (hb hby d0_32) rfl (by decide +kernel) (by decide) (by decide) ?_
    show Steps p.tables e below (s₁.setTop (mkF m 38 #[.val (.int (7 : Int32))] [])) _
    refine XS.iloadN X0.here hx rfl (hb hby d0_38) rfl ?_
    show Steps p.tables e below (s₁.setTop (mkF m 39 #[.val (.int (7 : Int32))] [(.int (7 : Int32))])) _
    refine XS.iconst X0.here hx rfl (hb hby d0_39) ?_
    show Steps p.tables e below (s₁.setTop (mkF m 40 #[.val (.int (7 : Int32))] [(.int (5 : Int32)), (.int (7 : Int32))])) _
    refine XS.icmpYes X0.here hx rfl (pc0 := 40) (pc' := 46) rfl (hb hby d0_40) rfl (by decide +kernel) (by decide) (by decide) ?_
    show Steps p.tables e below (s₁.setTop (mkF m 46 #[.val (.int (7 : Int32))] [])) _
    refine XS.iloadN X0.here hx rfl (hb hby d0_46) rfl ?_
    show Steps p.tables e below (s₁.setTop (mkF m 47 #[.val (.int (7 : Int32))] [(.int (7 : Int32))])) _
    refine XS.bipush X0.here hx rfl (hb hby d0_47) ?_
    show Steps p.tables e below (s₁.setTop (mkF m 49 #[.val (.int (7 : Int32))] [(.int (6 : Int32)), (.int (7 : Int32))])) _
    refine XS.icmpYes X0.here hx rfl (pc0 := 49) (pc' := 55) rfl (hb hby d0_49) rfl (by decide +kernel) (by decide) (by decide) ?_
    show Steps p.tables e below (s₁.setTop (mkF m 55 #[.val (.int (7 : Int32))] [])) _
    refine X0.ldcInt hx hown (mvT hZ (hw _ (List.mem_of_getElem? (i := 26) rfl))) (g := (mkF m 55 #[.val (.int (7 : Int32))] [])) rfl (hb hby d0_55) _ ?_
    show Steps p.tables e below (s₁.setTop (mkF m 57 #[.val (.int (7 : Int32))] [(.int (-2147483648 : Int32))])) _
    exact retOut X0 hx (i := .ireturn) Bd.returns rfl (Or.inl ⟨rfl, Or.inl rfl, _, rfl⟩) (hb hby d0_57) hr
  · exact ⟨rfl, N0, e0⟩
def own_bnd (k : Int32) : Int32 := if k = (0 : Int32) then (0 : Int32) else if k = (1 : Int32) then (127 : Int32) else if k = (2 : Int32) then (55296 : Int32) else if k = (3 : Int32) then (57343 : Int32) else if k = (4 : Int32) then (65535 : Int32) else if k = (5 : Int32) then (1114111 : Int32) else if k = (6 : Int32) then (57344 : Int32) else (-2147483648 : Int32)
theorem own_bndK (l : Launch) (Z : State) (a0 : Array Value) (hw : ∀ d ∈ tables_1, d.before a0 Z = true) (ws : List Jvm.Cond) (h0 : Heap) (n0 : Nat) (s_IA5 : Addr) (s_BMP : Addr) (s_UTF8 : Addr) (K : Ctx Z h0 s_IA5 s_BMP s_UTF8) (k : Int32) (hk : k = (0 : Int32) ∨ k = (1 : Int32) ∨ k = (2 : Int32) ∨ k = (3 : Int32) ∨ k = (4 : Int32) ∨ k = (5 : Int32) ∨ k = (6 : Int32) ∨ k = (7 : Int32)) :
    MetFree l (⟨"com/example/plainwire/plainwire/definitions/RepertoireHoldsPinLaw", "boundary", "(I)I"⟩ : MethodName) (head1 (Jvm.Cond.code (⟨"com/example/plainwire/plainwire/definitions/RepertoireHoldsPinLaw", "boundary", "(I)I"⟩ : MethodName) method_2_code 1 (some .int) :: ws) ({ frames := 0, cells := 0, slots := 0, locals := 0 } : Room)) (fun a U => a = #[(.int k)] ∧ Z.Warmed39 U.vm ∧ U.heap = h0) (fun _ _ _ _ _ => True) (fun _ U o U' => ∃ v L, o = .returned v ∧ QV (.int (own_bnd k)) h0 n0 v U'.heap L ∧ FrameEnd U o U' L ({ frames := 0, cells := 0, slots := 0, locals := 0 } : Room).cells ({ frames := 0, cells := 0, slots := 0, locals := 0 } : Room).slots) := by
  rcases hk with rfl | rfl | rfl | rfl | rfl | rfl | rfl | rfl
  · rw [show own_bnd (0 : Int32) = (0 : Int32) from by decide +kernel]; exact r0 l Z a0 hw ws h0 n0 s_IA5 s_BMP s_UTF8 K
  · rw [show own_bnd (1 : Int32) = (127 : Int32) from by decide +kernel]; exact r1 l Z a0 hw ws h0 n0 s_IA5 s_BMP s_UTF8 K
  · rw [show own_bnd (2 : Int32) = (55296 : Int32) from by decide +kernel]; exact r2 l Z a0 hw ws h0 n0 s_IA5 s_BMP s_UTF8 K
  · rw [show own_bnd (3 : Int32) = (57343 : Int32) from by decide +kernel]; exact r3 l Z a0 hw ws h0 n0 s_IA5 s_BMP s_UTF8 K
  · rw [show own_bnd (4 : Int32) = (65535 : Int32) from by decide +kernel]; exact r4 l Z a0 hw ws h0 n0 s_IA5 s_BMP s_UTF8 K
  · rw [show own_bnd (5 : Int32) = (1114111 : Int32) from by decide +kernel]; exact r5 l Z a0 hw ws h0 n0 s_IA5 s_BMP s_UTF8 K
  · rw [show own_bnd (6 : Int32) = (57344 : Int32) from by decide +kernel]; exact r6 l Z a0 hw ws h0 n0 s_IA5 s_BMP s_UTF8 K
  · rw [show own_bnd (7 : Int32) = (-2147483648 : Int32) from by decide +kernel]; exact r7 l Z a0 hw ws h0 n0 s_IA5 s_BMP s_UTF8 K
set_option maxRecDepth 65536 in
set_option maxHeartbeats 40000000 in
theorem r8 (l : Launch) (Z : State) (a0 : Array Value) (hw : ∀ d ∈ tables_1, d.before a0 Z = true) (ws : List Jvm.Cond) (h0 : Heap) (n0 : Nat) (s_IA5 : Addr) (s_BMP : Addr) (s_UTF8 : Addr) (K : Ctx Z h0 s_IA5 s_BMP s_UTF8) (p1 : Int32) (p2 : Int32) (hc_lt_0 : ifCond.holds .lt ((own_bnd (p2 &&& (7 : Int32))) + ((p1 &&& (7 : Int32)) - (3 : Int32))) = true) :
    MetFree l (⟨"com/example/plainwire/plainwire/definitions/Repertoire", "holds", "(I)Z"⟩ : MethodName) (head1 (Jvm.Cond.code (⟨"com/example/plainwire/plainwire/definitions/Repertoire", "holds", "(I)Z"⟩ : MethodName) prog_37_method_5_code 2 (some .boolean) :: ws) ({ frames := 0, cells := 0, slots := 0, locals := 0 } : Room)) (fun a U => a = #[(.ref s_IA5), (.int ((own_bnd (p2 &&& (7 : Int32))) + ((p1 &&& (7 : Int32)) - (3 : Int32))))] ∧ Z.Warmed39 U.vm ∧ U.heap = h0) (fun _ _ _ _ _ => True) (fun _ U o U' => ∃ v L, o = .returned v ∧ QV (.int (0 : Int32)) h0 n0 v U'.heap L ∧ FrameEnd U o U' L ({ frames := 0, cells := 0, slots := 0, locals := 0 } : Room).cells ({ frames := 0, cells := 0, slots := 0, locals := 0 } : Room).slots) := by
  obtain ⟨S_IA5, E_IA5, F_IA5_lastCodePoint, S_BMP, E_BMP, F_BMP_lastCodePoint, S_UTF8, E_UTF8, F_UTF8_lastCodePoint⟩ := id K
  refine MetFree.of_bodySF (plainFor_of_name pn1) hisR ?_
  intro p e s m args below meth c s₁ Bd hml0 hP hK
  obtain ⟨rfl, hZ, hh⟩ := hP
  have hx := Bd.exec
  have hby := Bd.bytes
  have hml : c.maxLocals = 2 := hml0
  have hown : s.vm.findClass "com/example/plainwire/plainwire/definitions/Repertoire" = some m.cls := findClass_of_methodNamed Bd.named
  have X0 : Stand p l e ({ frames := 0, cells := 0, slots := 0, locals := 0 } : Room) s m #[(.ref s_IA5), (.int ((own_bnd (p2 &&& (7 : Int32))) + ((p1 &&& (7 : Int32)) - (3 : Int32))))] below meth c s₁ [] 0 0 := Stand.of_body Bd
  have e0 : s₁.heap = h0 := by rw [← hh, Bd.state]; rfl
  have N0 := Fr.nil n0
  have pre0 : ∀ t, Steps p.tables e below (s₁.setTop (mkF m 0 #[.val (.ref s_IA5), .val (.int ((own_bnd (p2 &&& (7 : Int32))) + ((p1 &&& (7 : Int32)) - (3 : Int32))))] [])) t → Steps p.tables e below (s₁.setTop (entryFrame m #[(.ref s_IA5), (.int ((own_bnd (p2 &&& (7 : Int32))) + ((p1 &&& (7 : Int32)) - (3 : Int32))))] 2)) t := fun t k => castTop (by first | (simp [entryFrame, mkF, argsToLocals, Value.category]; done) | rfl) k
  obtain ⟨fs, hr, hrun, hended, hW, hsame⟩ := X0.leave (v := some (.int (0 : Int32))) (fun h => by rw [Bd.returns] at h; cases h)
  refine ⟨_, _, pre0 _ ?_, hrun, hended, _, _, rfl, ?_, ⟨_, rfl⟩, hW, hsame.mono (by decide) (by decide)⟩
  · show Steps p.tables e below (s₁.setTop (mkF m 0 #[.val (.ref s_IA5), .val (.int ((own_bnd (p2 &&& (7 : Int32))) + ((p1 &&& (7 : Int32)) - (3 : Int32))))] [])) _
    refine XS.iloadN X0.here hx rfl (hb hby d1_0) rfl ?_
    show Steps p.tables e below (s₁.setTop (mkF m 1 #[.val (.ref s_IA5), .val (.int ((own_bnd (p2 &&& (7 : Int32))) + ((p1 &&& (7 : Int32)) - (3 : Int32))))] [(.int ((own_bnd (p2 &&& (7 : Int32))) + ((p1 &&& (7 : Int32)) - (3 : Int32))))])) _
    refine XS.ifYes X0.here hx rfl (pc0 := 1) (pc' := 28) rfl (hb hby d1_1) rfl hc_lt_0 (by decide) (by decide) ?_
    show Steps p.tables e below (s₁.setTop (mkF m 28 #[.val (.ref s_IA5), .val (.int ((own_bnd (p2 &&& (7 : Int32))) + ((p1 &&& (7 : Int32)) - (3 : Int32))))] [])) _
    refine XS.iconst X0.here hx rfl (hb hby d1_28) ?_
    show Steps p.tables e below (s₁.setTop (mkF m 29 #[.val (.ref s_IA5), .val (.int ((own_bnd (p2 &&& (7 : Int32))) + ((p1 &&& (7 : Int32)) - (3 : Int32))))] [(.int (0 : Int32))])) _
    exact retN X0 hx (t := .boolean) Bd.returns (by simp) (hb hby d1_29) hr
  · exact ⟨rfl, N0, e0⟩
set_option maxRecDepth 65536 in
set_option maxHeartbeats 40000000 in
theorem law_k0_0_0 (l : Launch) (Z : State) (a0 : Array Value) (hw : ∀ d ∈ tables_1, d.before a0 Z = true) (ws : List Jvm.Cond) (h0 : Heap) (n0 : Nat) (s_IA5 : Addr) (s_BMP : Addr) (s_UTF8 : Addr) (K : Ctx Z h0 s_IA5 s_BMP s_UTF8) (p0 : Int32) (p1 : Int32) (p2 : Int32) (ha : ((p0 &&& (2147483647 : Int32)) % (3 : Int32)) = (0 : Int32)) (hb1 : (p2 &&& (8 : Int32)) = (0 : Int32)) (hc_lt_0 : ifCond.holds .lt ((own_bnd (p2 &&& (7 : Int32))) + ((p1 &&& (7 : Int32)) - (3 : Int32))) = true) :
    MetFree l x (head1 (Jvm.Cond.code x code maxLocals ret :: ws) room_1) (fun a U => a = #[(.int p0), (.int p1), (.int p2)] ∧ Z.Warmed39 U.vm ∧ U.heap = h0) (fun _ _ _ _ _ => True) (fun _ U o U' => ∃ v L, o = .returned v ∧ QV (.int (1 : Int32)) h0 n0 v U'.heap L ∧ FrameEnd U o U' L room_1.cells room_1.slots) := by
  obtain ⟨S_IA5, E_IA5, F_IA5_lastCodePoint, S_BMP, E_BMP, F_BMP_lastCodePoint, S_UTF8, E_UTF8, F_UTF8_lastCodePoint⟩ := id K
  refine MetFree.of_bodySF (plainFor_of_name pn2) hisR ?_
  intro p e s m args below meth c s₁ Bd hml0 hP hK
  obtain ⟨rfl, hZ, hh⟩ := hP
  have hx := Bd.exec
  have hby := Bd.bytes
  have hml : c.maxLocals = 7 := hml0
  have hown : s.vm.findClass "com/example/plainwire/plainwire/definitions/RepertoireHoldsPinLaw" = some m.cls := findClass_of_methodNamed Bd.named
  have X0 : Stand p l e room_1 s m #[(.int p0), (.int p1), (.int p2)] below meth c s₁ [] 0 0 := Stand.of_body Bd
  have e0 : s₁.heap = h0 := by rw [← hh, Bd.state]; rfl
  have N0 := Fr.nil n0
  have pre0 : ∀ t, Steps p.tables e below (s₁.setTop (mkF m 0 #[.val (.int p0), .val (.int p1), .val (.int p2), .unset, .unset, .unset, .unset] [])) t → Steps p.tables e below (s₁.setTop (entryFrame m #[(.int p0), (.int p1), (.int p2)] maxLocals)) t := fun t k => castTop (by first | (simp [entryFrame, mkF, argsToLocals, Value.category, maxLocals]; done) | rfl) k
  obtain ⟨T1, X1, e1, st1⟩ := getS X0 hx hZ hown (host := "") (hw _ (List.mem_of_getElem? (i := 1) rfl)) Via.refl e0 S_IA5 (g := (mkF m 11 #[.val (.int p0), .val (.int p1), .val (.int p2), .val (.int (0 : Int32)), .unset, .unset, .unset] [])) rfl (hb hby at_11)
  obtain ⟨_, _, ⟨T2, L2, k2, n2⟩, -, X2, ⟨Lc2, hQ2, l2, y2, z2⟩, st2⟩ := Jvm.LawKit.callS X1 hx (y := (⟨"com/example/plainwire/plainwire/definitions/RepertoireHoldsPinLaw", "boundary", "(I)I"⟩ : MethodName)) hown (mvT hZ (hw _ (List.mem_of_getElem? (i := 4) rfl))) (mvT hZ (hw _ (List.mem_of_getElem? (i := 5) rfl))) (mvT hZ (hw _ (List.mem_of_getElem? (i := 6) rfl))) (mvT hZ (hw _ (List.mem_of_getElem? (i := 7) rfl))) (by decide) (backOf (W := 0) (own_bndK l Z a0 hw [] h0 n0 s_IA5 s_BMP s_UTF8 K (p2 &&& (7 : Int32)) (own_and8 p2)) hZ (hw _ (List.mem_of_getElem? (i := 7) rfl)) (hw _ (List.mem_of_getElem? (i := 6) rfl)) (by decide) (by decide)) (g := (mkF m 54 #[.val (.int p0), .val (.int p1), .val (.int p2), .val (.int (0 : Int32)), .val (.ref s_IA5), .unset, .unset] [(.int (p2 &&& (7 : Int32)))])) rfl (by rw [hml]; rfl) (argsL := [(.int (p2 &&& (7 : Int32)))]) (rest := []) (lenOf pd0 rfl) rfl (by show 2 * 0 + _ ≤ _; exact Nat.le_of_eq rfl) (hb hby at_54) (fun _ _ => ⟨rfl, e1, (by decide : 0 + 0 ≤ _), (by decide : 0 + 0 ≤ _)⟩)
  dsimp only [Pt.U, Pt.locs, Pt.cells, Pt.slots] at X2 l2 y2 z2 st2 hQ2
  subst l2 y2 z2
  obtain ⟨rfl, N2q, e2⟩ := hQ2
  have N2 := Fr.app N0 N2q
  obtain ⟨cq3, kq3, q3a, q3b, q3c⟩ := isOf hZ e2 E_IA5
  obtain ⟨_, _, ⟨T3, L3, k3, n3⟩, -, X3, ⟨Lc3, hQ3, l3, y3, z3⟩, st3⟩ := X2.virtualBack hx (y := (⟨"com/example/plainwire/plainwire/definitions/Repertoire", "holds", "(I)Z"⟩ : MethodName)) (z := (⟨"com/example/plainwire/plainwire/definitions/Repertoire", "holds", "(I)Z"⟩ : MethodName)) hown (mvT hZ (hw _ (List.mem_of_getElem? (i := 9) rfl))) (mvT hZ (hw _ (List.mem_of_getElem? (i := 10) rfl))) (notFace_of_selects (args := #[]) (mvT hZ (hw _ (List.mem_of_getElem? (i := 12) rfl)))) (mvT hZ (hw _ (List.mem_of_getElem? (i := 12) rfl))) (mvT hZ (hw _ (List.mem_of_getElem? (i := 11) rfl))) (by decide) (backOf (W := 0) (r8 l Z a0 hw [] h0 n0 s_IA5 s_BMP s_UTF8 K p1 p2 hc_lt_0) hZ (hw _ (List.mem_of_getElem? (i := 13) rfl)) (hw _ (List.mem_of_getElem? (i := 2) rfl)) (by decide) (by decide)) q3a q3c (g := (mkF m 170 #[.val (.int p0), .val (.int p1), .val (.int p2), .val (.int (0 : Int32)), .val (.ref s_IA5), .val (.int ((own_bnd (p2 &&& (7 : Int32))) + ((p1 &&& (7 : Int32)) - (3 : Int32)))), .val (.int (0 : Int32))] [(.int ((own_bnd (p2 &&& (7 : Int32))) + ((p1 &&& (7 : Int32)) - (3 : Int32)))), (.ref s_IA5)])) rfl (by rw [hml]; rfl) (Steps.refl _) (argsL := [(.int ((own_bnd (p2 &&& (7 : Int32))) + ((p1 &&& (7 : Int32)) - (3 : Int32))))]) (rest := []) (lenOf pd1 rfl) rfl (by show 2 * 0 + _ ≤ _; exact Nat.le_of_eq rfl) (hb hby at_170) (fun _ _ => ⟨rfl, e2, (by decide : 0 + 0 ≤ _), (by decide : 0 + 0 ≤ _)⟩)
  dsimp only [Pt.U, Pt.locs, Pt.cells, Pt.slots] at X3 l3 y3 z3 st3 hQ3
  subst l3 y3 z3
  obtain ⟨rfl, N3q, e3⟩ := hQ3
  have N3 := Fr.app N2 N3q
  obtain ⟨fs, hr, hrun, hended, hW, hsame⟩ := X3.leave (v := some (.int (1 : Int32))) (fun h => by rw [Bd.returns] at h; cases h)
  refine ⟨_, _, pre0 _ ?_, hrun, hended, _, _, rfl, ?_, ⟨_, rfl⟩, hW, hsame.mono (by decide) (by decide)⟩
  · show Steps p.tables e below (s₁.setTop (mkF m 0 #[.val (.int p0), .val (.int p1), .val (.int p2), .unset, .unset, .unset, .unset] [])) _
    refine XS.iloadN X0.here hx rfl (hb hby at_0) rfl ?_
    show Steps p.tables e below (s₁.setTop (mkF m 1 #[.val (.int p0), .val (.int p1), .val (.int p2), .unset, .unset, .unset, .unset] [(.int p0)])) _
    refine X0.ldcInt hx hown (mvT hZ (hw _ (List.mem_of_getElem? (i := 0) rfl))) (g := (mkF m 1 #[.val (.int p0), .val (.int p1), .val (.int p2), .unset, .unset, .unset, .unset] [(.int p0)])) rfl (hb hby at_1) _ ?_
    show Steps p.tables e below (s₁.setTop (mkF m 3 #[.val (.int p0), .val (.int p1), .val (.int p2), .unset, .unset, .unset, .unset] [(.int (2147483647 : Int32)), (.int p0)])) _
    refine XS.iand X0.here hx rfl (hb hby at_3) rfl ?_
    show Steps p.tables e below (s₁.setTop (mkF m 4 #[.val (.int p0), .val (.int p1), .val (.int p2), .unset, .unset, .unset, .unset] [(.int (p0 &&& (2147483647 : Int32)))])) _
    refine XS.iconst X0.here hx rfl (hb hby at_4) ?_
    show Steps p.tables e below (s₁.setTop (mkF m 5 #[.val (.int p0), .val (.int p1), .val (.int p2), .unset, .unset, .unset, .unset] [(.int (3 : Int32)), (.int (p0 &&& (2147483647 : Int32)))])) _
    refine Jvm.RoadKit.iremM X0 hx rfl (hb hby at_5) rfl (by decide) ?_
    show Steps p.tables e below (s₁.setTop (mkF m 6 #[.val (.int p0), .val (.int p1), .val (.int p2), .unset, .unset, .unset, .unset] [(.int ((p0 &&& (2147483647 : Int32)) % (3 : Int32)))])) _
    rw [ha]
    show Steps p.tables e below (s₁.setTop (mkF m 6 #[.val (.int p0), .val (.int p1), .val (.int p2), .unset, .unset, .unset, .unset] [(.int (0 : Int32))])) _
    refine XS.istoreN X0.here hx rfl (hb hby at_6) rfl (l' := #[.val (.int p0), .val (.int p1), .val (.int p2), .val (.int (0 : Int32)), .unset, .unset, .unset]) rfl ?_
    show Steps p.tables e below (s₁.setTop (mkF m 7 #[.val (.int p0), .val (.int p1), .val (.int p2), .val (.int (0 : Int32)), .unset, .unset, .unset] [])) _
    refine XS.iloadN X0.here hx rfl (hb hby at_7) rfl ?_
    show Steps p.tables e below (s₁.setTop (mkF m 8 #[.val (.int p0), .val (.int p1), .val (.int p2), .val (.int (0 : Int32)), .unset, .unset, .unset] [(.int (0 : Int32))])) _
    refine XS.ifNo X0.here hx rfl (hb hby at_8) rfl (by decide +kernel) ?_
    show Steps p.tables e below (s₁.setTop (mkF m 11 #[.val (.int p0), .val (.int p1), .val (.int p2), .val (.int (0 : Int32)), .unset, .unset, .unset] [])) _
    refine st1 _ ?_
    show Steps p.tables e below (T1.setTop (mkF m 14 #[.val (.int p0), .val (.int p1), .val (.int p2), .val (.int (0 : Int32)), .unset, .unset, .unset] [(.ref s_IA5)])) _
    refine XS.astore X1.here hx rfl (hb hby at_14) rfl rfl (l' := #[.val (.int p0), .val (.int p1), .val (.int p2), .val (.int (0 : Int32)), .val (.ref s_IA5), .unset, .unset]) rfl ?_
    show Steps p.tables e below (T1.setTop (mkF m 16 #[.val (.int p0), .val (.int p1), .val (.int p2), .val (.int (0 : Int32)), .val (.ref s_IA5), .unset, .unset] [])) _
    refine XS.goto X1.here hx rfl (pc0 := 16) (pc' := 37) rfl (hb hby at_16) (by decide) (by decide) ?_
    show Steps p.tables e below (T1.setTop (mkF m 37 #[.val (.int p0), .val (.int p1), .val (.int p2), .val (.int (0 : Int32)), .val (.ref s_IA5), .unset, .unset] [])) _
    refine XS.iloadN X1.here hx rfl (hb hby at_37) rfl ?_
    show Steps p.tables e below (T1.setTop (mkF m 38 #[.val (.int p0), .val (.int p1), .val (.int p2), .val (.int (0 : Int32)), .val (.ref s_IA5), .unset, .unset] [(.int p2)])) _
    refine XS.bipush X1.here hx rfl (hb hby at_38) ?_
    show Steps p.tables e below (T1.setTop (mkF m 40 #[.val (.int p0), .val (.int p1), .val (.int p2), .val (.int (0 : Int32)), .val (.ref s_IA5), .unset, .unset] [(.int (8 : Int32)), (.int p2)])) _
    refine XS.iand X1.here hx rfl (hb hby at_40) rfl ?_
    show Steps p.tables e below (T1.setTop (mkF m 41 #[.val (.int p0), .val (.int p1), .val (.int p2), .val (.int (0 : Int32)), .val (.ref s_IA5), .unset, .unset] [(.int (p2 &&& (8 : Int32)))])) _
    rw [hb1]
    show Steps p.tables e below (T1.setTop (mkF m 41 #[.val (.int p0), .val (.int p1), .val (.int p2), .val (.int (0 : Int32)), .val (.ref s_IA5), .unset, .unset] [(.int (0 : Int32))])) _
    refine XS.ifYes X1.here hx rfl (pc0 := 41) (pc' := 50) rfl (hb hby at_41) rfl (by decide +kernel) (by decide) (by decide) ?_
    show Steps p.tables e below (T1.setTop (mkF m 50 #[.val (.int p0), .val (.int p1), .val (.int p2), .val (.int (0 : Int32)), .val (.ref s_IA5), .unset, .unset] [])) _
    refine XS.iloadN X1.here hx rfl (hb hby at_50) rfl ?_
    show Steps p.tables e below (T1.setTop (mkF m 51 #[.val (.int p0), .val (.int p1), .val (.int p2), .val (.int (0 : Int32)), .val (.ref s_IA5), .unset, .unset] [(.int p2)])) _
    refine XS.bipush X1.here hx rfl (hb hby at_51) ?_
    show Steps p.tables e below (T1.setTop (mkF m 53 #[.val (.int p0), .val (.int p1), .val (.int p2), .val (.int (0 : Int32)), .val (.ref s_IA5), .unset, .unset] [(.int (7 : Int32)), (.int p2)])) _
    refine XS.iand X1.here hx rfl (hb hby at_53) rfl ?_
    show Steps p.tables e below (T1.setTop (mkF m 54 #[.val (.int p0), .val (.int p1), .val (.int p2), .val (.int (0 : Int32)), .val (.ref s_IA5), .unset, .unset] [(.int (p2 &&& (7 : Int32)))])) _
    refine st2 _ ?_
    show Steps p.tables e below (T2.setTop (mkF m 57 #[.val (.int p0), .val (.int p1), .val (.int p2), .val (.int (0 : Int32)), .val (.ref s_IA5), .unset, .unset] [(.int (own_bnd (p2 &&& (7 : Int32))))])) _
    refine XS.iloadN X2.here hx rfl (hb hby at_57) rfl ?_
    show Steps p.tables e below (T2.setTop (mkF m 58 #[.val (.int p0), .val (.int p1), .val (.int p2), .val (.int (0 : Int32)), .val (.ref s_IA5), .unset, .unset] [(.int p1), (.int (own_bnd (p2 &&& (7 : Int32))))])) _
    refine XS.bipush X2.here hx rfl (hb hby at_58) ?_
    show Steps p.tables e below (T2.setTop (mkF m 60 #[.val (.int p0), .val (.int p1), .val (.int p2), .val (.int (0 : Int32)), .val (.ref s_IA5), .unset, .unset] [(.int (7 : Int32)), (.int p1), (.int (own_bnd (p2 &&& (7 : Int32))))])) _
    refine XS.iand X2.here hx rfl (hb hby at_60) rfl ?_
    show Steps p.tables e below (T2.setTop (mkF m 61 #[.val (.int p0), .val (.int p1), .val (.int p2), .val (.int (0 : Int32)), .val (.ref s_IA5), .unset, .unset] [(.int (p1 &&& (7 : Int32))), (.int (own_bnd (p2 &&& (7 : Int32))))])) _
    refine XS.iconst X2.here hx rfl (hb hby at_61) ?_
    show Steps p.tables e below (T2.setTop (mkF m 62 #[.val (.int p0), .val (.int p1), .val (.int p2), .val (.int (0 : Int32)), .val (.ref s_IA5), .unset, .unset] [(.int (3 : Int32)), (.int (p1 &&& (7 : Int32))), (.int (own_bnd (p2 &&& (7 : Int32))))])) _
    refine XS.isub X2.here hx rfl (hb hby at_62) rfl ?_
    show Steps p.tables e below (T2.setTop (mkF m 63 #[.val (.int p0), .val (.int p1), .val (.int p2), .val (.int (0 : Int32)), .val (.ref s_IA5), .unset, .unset] [(.int ((p1 &&& (7 : Int32)) - (3 : Int32))), (.int (own_bnd (p2 &&& (7 : Int32))))])) _
    refine XS.iadd X2.here hx rfl (hb hby at_63) rfl ?_
    show Steps p.tables e below (T2.setTop (mkF m 64 #[.val (.int p0), .val (.int p1), .val (.int p2), .val (.int (0 : Int32)), .val (.ref s_IA5), .unset, .unset] [(.int ((own_bnd (p2 &&& (7 : Int32))) + ((p1 &&& (7 : Int32)) - (3 : Int32))))])) _
    refine XS.istore X2.here hx rfl (hb hby at_64) rfl (l' := #[.val (.int p0), .val (.int p1), .val (.int p2), .val (.int (0 : Int32)), .val (.ref s_IA5), .val (.int ((own_bnd (p2 &&& (7 : Int32))) + ((p1 &&& (7 : Int32)) - (3 : Int32)))), .unset]) rfl ?_
    show Steps p.tables e below (T2.setTop (mkF m 66 #[.val (.int p0), .val (.int p1), .val (.int p2), .val (.int (0 : Int32)), .val (.ref s_IA5), .val (.int ((own_bnd (p2 &&& (7 : Int32))) + ((p1 &&& (7 : Int32)) - (3 : Int32)))), .unset] [])) _
    refine XS.iloadN X2.here hx rfl (hb hby at_66) rfl ?_
    show Steps p.tables e below (T2.setTop (mkF m 67 #[.val (.int p0), .val (.int p1), .val (.int p2), .val (.int (0 : Int32)), .val (.ref s_IA5), .val (.int ((own_bnd (p2 &&& (7 : Int32))) + ((p1 &&& (7 : Int32)) - (3 : Int32)))), .unset] [(.int (0 : Int32))])) _
    refine XS.ifNo X2.here hx rfl (hb hby at_67) rfl (by decide +kernel) ?_
    show Steps p.tables e below (T2.setTop (mkF m 70 #[.val (.int p0), .val (.int p1), .val (.int p2), .val (.int (0 : Int32)), .val (.ref s_IA5), .val (.int ((own_bnd (p2 &&& (7 : Int32))) + ((p1 &&& (7 : Int32)) - (3 : Int32)))), .unset] [])) _
    refine XS.iload X2.here hx rfl (hb hby at_70) rfl ?_
    show Steps p.tables e below (T2.setTop (mkF m 72 #[.val (.int p0), .val (.int p1), .val (.int p2), .val (.int (0 : Int32)), .val (.ref s_IA5), .val (.int ((own_bnd (p2 &&& (7 : Int32))) + ((p1 &&& (7 : Int32)) - (3 : Int32)))), .unset] [(.int ((own_bnd (p2 &&& (7 : Int32))) + ((p1 &&& (7 : Int32)) - (3 : Int32))))])) _
    refine XS.ifYes X2.here hx rfl (pc0 := 72) (pc' := 86) rfl (hb hby at_72) rfl hc_lt_0 (by decide) (by decide) ?_
    show Steps p.tables e below (T2.setTop (mkF m 86 #[.val (.int p0), .val (.int p1), .val (.int p2), .val (.int (0 : Int32)), .val (.ref s_IA5), .val (.int ((own_bnd (p2 &&& (7 : Int32))) + ((p1 &&& (7 : Int32)) - (3 : Int32)))), .unset] [])) _
    refine XS.iconst X2.here hx rfl (hb hby at_86) ?_
    show Steps p.tables e below (T2.setTop (mkF m 87 #[.val (.int p0), .val (.int p1), .val (.int p2), .val (.int (0 : Int32)), .val (.ref s_IA5), .val (.int ((own_bnd (p2 &&& (7 : Int32))) + ((p1 &&& (7 : Int32)) - (3 : Int32)))), .unset] [(.int (0 : Int32))])) _
    refine XS.istore X2.here hx rfl (hb hby at_87) rfl (l' := #[.val (.int p0), .val (.int p1), .val (.int p2), .val (.int (0 : Int32)), .val (.ref s_IA5), .val (.int ((own_bnd (p2 &&& (7 : Int32))) + ((p1 &&& (7 : Int32)) - (3 : Int32)))), .val (.int (0 : Int32))]) rfl ?_
    show Steps p.tables e below (T2.setTop (mkF m 89 #[.val (.int p0), .val (.int p1), .val (.int p2), .val (.int (0 : Int32)), .val (.ref s_IA5), .val (.int ((own_bnd (p2 &&& (7 : Int32))) + ((p1 &&& (7 : Int32)) - (3 : Int32)))), .val (.int (0 : Int32))] [])) _
    refine XS.goto X2.here hx rfl (pc0 := 89) (pc' := 166) rfl (hb hby at_89) (by decide) (by decide) ?_
    show Steps p.tables e below (T2.setTop (mkF m 166 #[.val (.int p0), .val (.int p1), .val (.int p2), .val (.int (0 : Int32)), .val (.ref s_IA5), .val (.int ((own_bnd (p2 &&& (7 : Int32))) + ((p1 &&& (7 : Int32)) - (3 : Int32)))), .val (.int (0 : Int32))] [])) _
    refine XS.aload X2.here hx rfl (hb hby at_166) rfl rfl ?_
    show Steps p.tables e below (T2.setTop (mkF m 168 #[.val (.int p0), .val (.int p1), .val (.int p2), .val (.int (0 : Int32)), .val (.ref s_IA5), .val (.int ((own_bnd (p2 &&& (7 : Int32))) + ((p1 &&& (7 : Int32)) - (3 : Int32)))), .val (.int (0 : Int32))] [(.ref s_IA5)])) _
    refine XS.iload X2.here hx rfl (hb hby at_168) rfl ?_
    show Steps p.tables e below (T2.setTop (mkF m 170 #[.val (.int p0), .val (.int p1), .val (.int p2), .val (.int (0 : Int32)), .val (.ref s_IA5), .val (.int ((own_bnd (p2 &&& (7 : Int32))) + ((p1 &&& (7 : Int32)) - (3 : Int32)))), .val (.int (0 : Int32))] [(.int ((own_bnd (p2 &&& (7 : Int32))) + ((p1 &&& (7 : Int32)) - (3 : Int32)))), (.ref s_IA5)])) _
    refine st3.trans ?_
    show Steps p.tables e below (T3.setTop (mkF m 173 #[.val (.int p0), .val (.int p1), .val (.int p2), .val (.int (0 : Int32)), .val (.ref s_IA5), .val (.int ((own_bnd (p2 &&& (7 : Int32))) + ((p1 &&& (7 : Int32)) - (3 : Int32)))), .val (.int (0 : Int32))] [(.int (0 : Int32))])) _
    refine XS.iload X3.here hx rfl (hb hby at_173) rfl ?_
    show Steps p.tables e below (T3.setTop (mkF m 175 #[.val (.int p0), .val (.int p1), .val (.int p2), .val (.int (0 : Int32)), .val (.ref s_IA5), .val (.int ((own_bnd (p2 &&& (7 : Int32))) + ((p1 &&& (7 : Int32)) - (3 : Int32)))), .val (.int (0 : Int32))] [(.int (0 : Int32)), (.int (0 : Int32))])) _
    refine XS.icmpNo X3.here hx rfl (hb hby at_175) rfl (by decide +kernel) ?_
    show Steps p.tables e below (T3.setTop (mkF m 178 #[.val (.int p0), .val (.int p1), .val (.int p2), .val (.int (0 : Int32)), .val (.ref s_IA5), .val (.int ((own_bnd (p2 &&& (7 : Int32))) + ((p1 &&& (7 : Int32)) - (3 : Int32)))), .val (.int (0 : Int32))] [])) _
    refine XS.iconst X3.here hx rfl (hb hby at_178) ?_
    show Steps p.tables e below (T3.setTop (mkF m 179 #[.val (.int p0), .val (.int p1), .val (.int p2), .val (.int (0 : Int32)), .val (.ref s_IA5), .val (.int ((own_bnd (p2 &&& (7 : Int32))) + ((p1 &&& (7 : Int32)) - (3 : Int32)))), .val (.int (0 : Int32))] [(.int (1 : Int32))])) _
    refine XS.goto X3.here hx rfl (pc0 := 179) (pc' := 183) rfl (hb hby at_179) (by decide) (by decide) ?_
    show Steps p.tables e below (T3.setTop (mkF m 183 #[.val (.int p0), .val (.int p1), .val (.int p2), .val (.int (0 : Int32)), .val (.ref s_IA5), .val (.int ((own_bnd (p2 &&& (7 : Int32))) + ((p1 &&& (7 : Int32)) - (3 : Int32)))), .val (.int (0 : Int32))] [(.int (1 : Int32))])) _
    exact retN X3 hx (t := .boolean) Bd.returns (by simp) (hb hby at_183) hr
  · exact ⟨rfl, N3, e3⟩
set_option maxRecDepth 65536 in
set_option maxHeartbeats 40000000 in
theorem r10 (l : Launch) (Z : State) (a0 : Array Value) (hw : ∀ d ∈ tables_1, d.before a0 Z = true) (ws : List Jvm.Cond) (h0 : Heap) (n0 : Nat) (s_IA5 : Addr) (s_BMP : Addr) (s_UTF8 : Addr) (K : Ctx Z h0 s_IA5 s_BMP s_UTF8) (p1 : Int32) (p2 : Int32) (hc_lt_0 : ifCond.holds .lt ((own_bnd (p2 &&& (7 : Int32))) + ((p1 &&& (7 : Int32)) - (3 : Int32))) = false) (hc_gt_127 : if_icmp.holds .gt ((own_bnd (p2 &&& (7 : Int32))) + ((p1 &&& (7 : Int32)) - (3 : Int32))) (127 : Int32) = false) (hc_lt_55296 : if_icmp.holds .lt ((own_bnd (p2 &&& (7 : Int32))) + ((p1 &&& (7 : Int32)) - (3 : Int32))) (55296 : Int32) = true) :
    MetFree l (⟨"com/example/plainwire/plainwire/definitions/Repertoire", "holds", "(I)Z"⟩ : MethodName) (head1 (Jvm.Cond.code (⟨"com/example/plainwire/plainwire/definitions/Repertoire", "holds", "(I)Z"⟩ : MethodName) prog_37_method_5_code 2 (some .boolean) :: ws) ({ frames := 0, cells := 0, slots := 0, locals := 0 } : Room)) (fun a U => a = #[(.ref s_IA5), (.int ((own_bnd (p2 &&& (7 : Int32))) + ((p1 &&& (7 : Int32)) - (3 : Int32))))] ∧ Z.Warmed39 U.vm ∧ U.heap = h0) (fun _ _ _ _ _ => True) (fun _ U o U' => ∃ v L, o = .returned v ∧ QV (.int (1 : Int32)) h0 n0 v U'.heap L ∧ FrameEnd U o U' L ({ frames := 0, cells := 0, slots := 0, locals := 0 } : Room).cells ({ frames := 0, cells := 0, slots := 0, locals := 0 } : Room).slots) := by
  obtain ⟨S_IA5, E_IA5, F_IA5_lastCodePoint, S_BMP, E_BMP, F_BMP_lastCodePoint, S_UTF8, E_UTF8, F_UTF8_lastCodePoint⟩ := id K
  refine MetFree.of_bodySF (plainFor_of_name pn1) hisR ?_
  intro p e s m args below meth c s₁ Bd hml0 hP hK
  obtain ⟨rfl, hZ, hh⟩ := hP
  have hx := Bd.exec
  have hby := Bd.bytes
  have hml : c.maxLocals = 2 := hml0
  have hown : s.vm.findClass "com/example/plainwire/plainwire/definitions/Repertoire" = some m.cls := findClass_of_methodNamed Bd.named
  have X0 : Stand p l e ({ frames := 0, cells := 0, slots := 0, locals := 0 } : Room) s m #[(.ref s_IA5), (.int ((own_bnd (p2 &&& (7 : Int32))) + ((p1 &&& (7 : Int32)) - (3 : Int32))))] below meth c s₁ [] 0 0 := Stand.of_body Bd
  have e0 : s₁.heap = h0 := by rw [← hh, Bd.state]; rfl
  have N0 := Fr.nil n0
  have pre0 : ∀ t, Steps p.tables e below (s₁.setTop (mkF m 0 #[.val (.ref s_IA5), .val (.int ((own_bnd (p2 &&& (7 : Int32))) + ((p1 &&& (7 : Int32)) - (3 : Int32))))] [])) t → Steps p.tables e below (s₁.setTop (entryFrame m #[(.ref s_IA5), (.int ((own_bnd (p2 &&& (7 : Int32))) + ((p1 &&& (7 : Int32)) - (3 : Int32))))] 2)) t := fun t k => castTop (by first | (simp [entryFrame, mkF, argsToLocals, Value.category]; done) | rfl) k
  obtain ⟨T1, X1, e1, st1⟩ := getF X0 hx hZ hown (host := "") (Or.inl (hw _ (List.mem_of_getElem? (i := 14) rfl))) Via.refl e0 F_IA5_lastCodePoint (g := (mkF m 6 #[.val (.ref s_IA5), .val (.int ((own_bnd (p2 &&& (7 : Int32))) + ((p1 &&& (7 : Int32)) - (3 : Int32))))] [(.ref s_IA5), (.int ((own_bnd (p2 &&& (7 : Int32))) + ((p1 &&& (7 : Int32)) - (3 : Int32))))])) rfl rfl (hb hby d1_6)
  obtain ⟨fs, hr, hrun, hended, hW, hsame⟩ := X1.leave (v := some (.int (1 : Int32))) (fun h => by rw [Bd.returns] at h; cases h)
  refine ⟨_, _, pre0 _ ?_, hrun, hended, _, _, rfl, ?_, ⟨_, rfl⟩, hW, hsame.mono (by decide) (by decide)⟩
  · show Steps p.tables e below (s₁.setTop (mkF m 0 #[.val (.ref s_IA5), .val (.int ((own_bnd (p2 &&& (7 : Int32))) + ((p1 &&& (7 : Int32)) - (3 : Int32))))] [])) _
    refine XS.iloadN X0.here hx rfl (hb hby d1_0) rfl ?_
    show Steps p.tables e below (s₁.setTop (mkF m 1 #[.val (.ref s_IA5), .val (.int ((own_bnd (p2 &&& (7 : Int32))) + ((p1 &&& (7 : Int32)) - (3 : Int32))))] [(.int ((own_bnd (p2 &&& (7 : Int32))) + ((p1 &&& (7 : Int32)) - (3 : Int32))))])) _
    refine XS.ifNo X0.here hx rfl (hb hby d1_1) rfl hc_lt_0 ?_
    show Steps p.tables e below (s₁.setTop (mkF m 4 #[.val (.ref s_IA5), .val (.int ((own_bnd (p2 &&& (7 : Int32))) + ((p1 &&& (7 : Int32)) - (3 : Int32))))] [])) _
    refine XS.iloadN X0.here hx rfl (hb hby d1_4) rfl ?_
    show Steps p.tables e below (s₁.setTop (mkF m 5 #[.val (.ref s_IA5), .val (.int ((own_bnd (p2 &&& (7 : Int32))) + ((p1 &&& (7 : Int32)) - (3 : Int32))))] [(.int ((own_bnd (p2 &&& (7 : Int32))) + ((p1 &&& (7 : Int32)) - (3 : Int32))))])) _
    refine XS.aloadN X0.here hx rfl (hb hby d1_5) rfl rfl ?_
    show Steps p.tables e below (s₁.setTop (mkF m 6 #[.val (.ref s_IA5), .val (.int ((own_bnd (p2 &&& (7 : Int32))) + ((p1 &&& (7 : Int32)) - (3 : Int32))))] [(.ref s_IA5), (.int ((own_bnd (p2 &&& (7 : Int32))) + ((p1 &&& (7 : Int32)) - (3 : Int32))))])) _
    refine st1 _ ?_
    show Steps p.tables e below (T1.setTop (mkF m 9 #[.val (.ref s_IA5), .val (.int ((own_bnd (p2 &&& (7 : Int32))) + ((p1 &&& (7 : Int32)) - (3 : Int32))))] [(.int (127 : Int32)), (.int ((own_bnd (p2 &&& (7 : Int32))) + ((p1 &&& (7 : Int32)) - (3 : Int32))))])) _
    refine XS.icmpNo X1.here hx rfl (hb hby d1_9) rfl hc_gt_127 ?_
    show Steps p.tables e below (T1.setTop (mkF m 12 #[.val (.ref s_IA5), .val (.int ((own_bnd (p2 &&& (7 : Int32))) + ((p1 &&& (7 : Int32)) - (3 : Int32))))] [])) _
    refine XS.iloadN X1.here hx rfl (hb hby d1_12) rfl ?_
    show Steps p.tables e below (T1.setTop (mkF m 13 #[.val (.ref s_IA5), .val (.int ((own_bnd (p2 &&& (7 : Int32))) + ((p1 &&& (7 : Int32)) - (3 : Int32))))] [(.int ((own_bnd (p2 &&& (7 : Int32))) + ((p1 &&& (7 : Int32)) - (3 : Int32))))])) _
    refine X1.ldcInt hx hown (mvT hZ (hw _ (List.mem_of_getElem? (i := 21) rfl))) (g := (mkF m 13 #[.val (.ref s_IA5), .val (.int ((own_bnd (p2 &&& (7 : Int32))) + ((p1 &&& (7 : Int32)) - (3 : Int32))))] [(.int ((own_bnd (p2 &&& (7 : Int32))) + ((p1 &&& (7 : Int32)) - (3 : Int32))))])) rfl (hb hby d1_13) _ ?_
    show Steps p.tables e below (T1.setTop (mkF m 15 #[.val (.ref s_IA5), .val (.int ((own_bnd (p2 &&& (7 : Int32))) + ((p1 &&& (7 : Int32)) - (3 : Int32))))] [(.int (55296 : Int32)), (.int ((own_bnd (p2 &&& (7 : Int32))) + ((p1 &&& (7 : Int32)) - (3 : Int32))))])) _
    refine XS.icmpYes X1.here hx rfl (pc0 := 15) (pc' := 24) rfl (hb hby d1_15) rfl hc_lt_55296 (by decide) (by decide) ?_
    show Steps p.tables e below (T1.setTop (mkF m 24 #[.val (.ref s_IA5), .val (.int ((own_bnd (p2 &&& (7 : Int32))) + ((p1 &&& (7 : Int32)) - (3 : Int32))))] [])) _
    refine XS.iconst X1.here hx rfl (hb hby d1_24) ?_
    show Steps p.tables e below (T1.setTop (mkF m 25 #[.val (.ref s_IA5), .val (.int ((own_bnd (p2 &&& (7 : Int32))) + ((p1 &&& (7 : Int32)) - (3 : Int32))))] [(.int (1 : Int32))])) _
    refine XS.goto X1.here hx rfl (pc0 := 25) (pc' := 29) rfl (hb hby d1_25) (by decide) (by decide) ?_
    show Steps p.tables e below (T1.setTop (mkF m 29 #[.val (.ref s_IA5), .val (.int ((own_bnd (p2 &&& (7 : Int32))) + ((p1 &&& (7 : Int32)) - (3 : Int32))))] [(.int (1 : Int32))])) _
    exact retN X1 hx (t := .boolean) Bd.returns (by simp) (hb hby d1_29) hr
  · exact ⟨rfl, N0, e1⟩
set_option maxRecDepth 65536 in
set_option maxHeartbeats 40000000 in
theorem law_k0_0_1 (l : Launch) (Z : State) (a0 : Array Value) (hw : ∀ d ∈ tables_1, d.before a0 Z = true) (ws : List Jvm.Cond) (h0 : Heap) (n0 : Nat) (s_IA5 : Addr) (s_BMP : Addr) (s_UTF8 : Addr) (K : Ctx Z h0 s_IA5 s_BMP s_UTF8) (p0 : Int32) (p1 : Int32) (p2 : Int32) (ha : ((p0 &&& (2147483647 : Int32)) % (3 : Int32)) = (0 : Int32)) (hb1 : (p2 &&& (8 : Int32)) = (0 : Int32)) (hc_lt_0 : ifCond.holds .lt ((own_bnd (p2 &&& (7 : Int32))) + ((p1 &&& (7 : Int32)) - (3 : Int32))) = false) (hc_gt_127 : if_icmp.holds .gt ((own_bnd (p2 &&& (7 : Int32))) + ((p1 &&& (7 : Int32)) - (3 : Int32))) (127 : Int32) = false) (hc_lt_55296 : if_icmp.holds .lt ((own_bnd (p2 &&& (7 : Int32))) + ((p1 &&& (7 : Int32)) - (3 : Int32))) (55296 : Int32) = true) :
    MetFree l x (head1 (Jvm.Cond.code x code maxLocals ret :: ws) room_1) (fun a U => a = #[(.int p0), (.int p1), (.int p2)] ∧ Z.Warmed39 U.vm ∧ U.heap = h0) (fun _ _ _ _ _ => True) (fun _ U o U' => ∃ v L, o = .returned v ∧ QV (.int (1 : Int32)) h0 n0 v U'.heap L ∧ FrameEnd U o U' L room_1.cells room_1.slots) := by
  obtain ⟨S_IA5, E_IA5, F_IA5_lastCodePoint, S_BMP, E_BMP, F_BMP_lastCodePoint, S_UTF8, E_UTF8, F_UTF8_lastCodePoint⟩ := id K
  refine MetFree.of_bodySF (plainFor_of_name pn2) hisR ?_
  intro p e s m args below meth c s₁ Bd hml0 hP hK
  obtain ⟨rfl, hZ, hh⟩ := hP
  have hx := Bd.exec
  have hby := Bd.bytes
  have hml : c.maxLocals = 7 := hml0
  have hown : s.vm.findClass "com/example/plainwire/plainwire/definitions/RepertoireHoldsPinLaw" = some m.cls := findClass_of_methodNamed Bd.named
  have X0 : Stand p l e room_1 s m #[(.int p0), (.int p1), (.int p2)] below meth c s₁ [] 0 0 := Stand.of_body Bd
  have e0 : s₁.heap = h0 := by rw [← hh, Bd.state]; rfl
  have N0 := Fr.nil n0
  have pre0 : ∀ t, Steps p.tables e below (s₁.setTop (mkF m 0 #[.val (.int p0), .val (.int p1), .val (.int p2), .unset, .unset, .unset, .unset] [])) t → Steps p.tables e below (s₁.setTop (entryFrame m #[(.int p0), (.int p1), (.int p2)] maxLocals)) t := fun t k => castTop (by first | (simp [entryFrame, mkF, argsToLocals, Value.category, maxLocals]; done) | rfl) k
  obtain ⟨T1, X1, e1, st1⟩ := getS X0 hx hZ hown (host := "") (hw _ (List.mem_of_getElem? (i := 1) rfl)) Via.refl e0 S_IA5 (g := (mkF m 11 #[.val (.int p0), .val (.int p1), .val (.int p2), .val (.int (0 : Int32)), .unset, .unset, .unset] [])) rfl (hb hby at_11)
  obtain ⟨_, _, ⟨T2, L2, k2, n2⟩, -, X2, ⟨Lc2, hQ2, l2, y2, z2⟩, st2⟩ := Jvm.LawKit.callS X1 hx (y := (⟨"com/example/plainwire/plainwire/definitions/RepertoireHoldsPinLaw", "boundary", "(I)I"⟩ : MethodName)) hown (mvT hZ (hw _ (List.mem_of_getElem? (i := 4) rfl))) (mvT hZ (hw _ (List.mem_of_getElem? (i := 5) rfl))) (mvT hZ (hw _ (List.mem_of_getElem? (i := 6) rfl))) (mvT hZ (hw _ (List.mem_of_getElem? (i := 7) rfl))) (by decide) (backOf (W := 0) (own_bndK l Z a0 hw [] h0 n0 s_IA5 s_BMP s_UTF8 K (p2 &&& (7 : Int32)) (own_and8 p2)) hZ (hw _ (List.mem_of_getElem? (i := 7) rfl)) (hw _ (List.mem_of_getElem? (i := 6) rfl)) (by decide) (by decide)) (g := (mkF m 54 #[.val (.int p0), .val (.int p1), .val (.int p2), .val (.int (0 : Int32)), .val (.ref s_IA5), .unset, .unset] [(.int (p2 &&& (7 : Int32)))])) rfl (by rw [hml]; rfl) (argsL := [(.int (p2 &&& (7 : Int32)))]) (rest := []) (lenOf pd0 rfl) rfl (by show 2 * 0 + _ ≤ _; exact Nat.le_of_eq rfl) (hb hby at_54) (fun _ _ => ⟨rfl, e1, (by decide : 0 + 0 ≤ _), (by decide : 0 + 0 ≤ _)⟩)
  dsimp only [Pt.U, Pt.locs, Pt.cells, Pt.slots] at X2 l2 y2 z2 st2 hQ2
  subst l2 y2 z2
  obtain ⟨rfl, N2q, e2⟩ := hQ2
  have N2 := Fr.app N0 N2q
  obtain ⟨cq3, kq3, q3a, q3b, q3c⟩ := isOf hZ e2 E_IA5
  obtain ⟨_, _, ⟨T3, L3, k3, n3⟩, -, X3, ⟨Lc3, hQ3, l3, y3, z3⟩, st3⟩ := X2.virtualBack hx (y := (⟨"com/example/plainwire/plainwire/definitions/Repertoire", "holds", "(I)Z"⟩ : MethodName)) (z := (⟨"com/example/plainwire/plainwire/definitions/Repertoire", "holds", "(I)Z"⟩ : MethodName)) hown (mvT hZ (hw _ (List.mem_of_getElem? (i := 9) rfl))) (mvT hZ (hw _ (List.mem_of_getElem? (i := 10) rfl))) (notFace_of_selects (args := #[]) (mvT hZ (hw _ (List.mem_of_getElem? (i := 12) rfl)))) (mvT hZ (hw _ (List.mem_of_getElem? (i := 12) rfl))) (mvT hZ (hw _ (List.mem_of_getElem? (i := 11) rfl))) (by decide) (backOf (W := 0) (r10 l Z a0 hw [] h0 n0 s_IA5 s_BMP s_UTF8 K p1 p2 hc_lt_0 hc_gt_127 hc_lt_55296) hZ (hw _ (List.mem_of_getElem? (i := 13) rfl)) (hw _ (List.mem_of_getElem? (i := 2) rfl)) (by decide) (by decide)) q3a q3c (g := (mkF m 170 #[.val (.int p0), .val (.int p1), .val (.int p2), .val (.int (0 : Int32)), .val (.ref s_IA5), .val (.int ((own_bnd (p2 &&& (7 : Int32))) + ((p1 &&& (7 : Int32)) - (3 : Int32)))), .val (.int (1 : Int32))] [(.int ((own_bnd (p2 &&& (7 : Int32))) + ((p1 &&& (7 : Int32)) - (3 : Int32)))), (.ref s_IA5)])) rfl (by rw [hml]; rfl) (Steps.refl _) (argsL := [(.int ((own_bnd (p2 &&& (7 : Int32))) + ((p1 &&& (7 : Int32)) - (3 : Int32))))]) (rest := []) (lenOf pd1 rfl) rfl (by show 2 * 0 + _ ≤ _; exact Nat.le_of_eq rfl) (hb hby at_170) (fun _ _ => ⟨rfl, e2, (by decide : 0 + 0 ≤ _), (by decide : 0 + 0 ≤ _)⟩)
  dsimp only [Pt.U, Pt.locs, Pt.cells, Pt.slots] at X3 l3 y3 z3 st3 hQ3
  subst l3 y3 z3
  obtain ⟨rfl, N3q, e3⟩ := hQ3
  have N3 := Fr.app N2 N3q
  obtain ⟨fs, hr, hrun, hended, hW, hsame⟩ := X3.leave (v := some (.int (1 : Int32))) (fun h => by rw [Bd.returns] at h; cases h)
  refine ⟨_, _, pre0 _ ?_, hrun, hended, _, _, rfl, ?_, ⟨_, rfl⟩, hW, hsame.mono (by decide) (by decide)⟩
  · show Steps p.tables e below (s₁.setTop (mkF m 0 #[.val (.int p0), .val (.int p1), .val (.int p2), .unset, .unset, .unset, .unset] [])) _
    refine XS.iloadN X0.here hx rfl (hb hby at_0) rfl ?_
    show Steps p.tables e below (s₁.setTop (mkF m 1 #[.val (.int p0), .val (.int p1), .val (.int p2), .unset, .unset, .unset, .unset] [(.int p0)])) _
    refine X0.ldcInt hx hown (mvT hZ (hw _ (List.mem_of_getElem? (i := 0) rfl))) (g := (mkF m 1 #[.val (.int p0), .val (.int p1), .val (.int p2), .unset, .unset, .unset, .unset] [(.int p0)])) rfl (hb hby at_1) _ ?_
    show Steps p.tables e below (s₁.setTop (mkF m 3 #[.val (.int p0), .val (.int p1), .val (.int p2), .unset, .unset, .unset, .unset] [(.int (2147483647 : Int32)), (.int p0)])) _
    refine XS.iand X0.here hx rfl (hb hby at_3) rfl ?_
    show Steps p.tables e below (s₁.setTop (mkF m 4 #[.val (.int p0), .val (.int p1), .val (.int p2), .unset, .unset, .unset, .unset] [(.int (p0 &&& (2147483647 : Int32)))])) _
    refine XS.iconst X0.here hx rfl (hb hby at_4) ?_
    show Steps p.tables e below (s₁.setTop (mkF m 5 #[.val (.int p0), .val (.int p1), .val (.int p2), .unset, .unset, .unset, .unset] [(.int (3 : Int32)), (.int (p0 &&& (2147483647 : Int32)))])) _
    refine Jvm.RoadKit.iremM X0 hx rfl (hb hby at_5) rfl (by decide) ?_
    show Steps p.tables e below (s₁.setTop (mkF m 6 #[.val (.int p0), .val (.int p1), .val (.int p2), .unset, .unset, .unset, .unset] [(.int ((p0 &&& (2147483647 : Int32)) % (3 : Int32)))])) _
    rw [ha]
    show Steps p.tables e below (s₁.setTop (mkF m 6 #[.val (.int p0), .val (.int p1), .val (.int p2), .unset, .unset, .unset, .unset] [(.int (0 : Int32))])) _
    refine XS.istoreN X0.here hx rfl (hb hby at_6) rfl (l' := #[.val (.int p0), .val (.int p1), .val (.int p2), .val (.int (0 : Int32)), .unset, .unset, .unset]) rfl ?_
    show Steps p.tables e below (s₁.setTop (mkF m 7 #[.val (.int p0), .val (.int p1), .val (.int p2), .val (.int (0 : Int32)), .unset, .unset, .unset] [])) _
    refine XS.iloadN X0.here hx rfl (hb hby at_7) rfl ?_
    show Steps p.tables e below (s₁.setTop (mkF m 8 #[.val (.int p0), .val (.int p1), .val (.int p2), .val (.int (0 : Int32)), .unset, .unset, .unset] [(.int (0 : Int32))])) _
    refine XS.ifNo X0.here hx rfl (hb hby at_8) rfl (by decide +kernel) ?_
    show Steps p.tables e below (s₁.setTop (mkF m 11 #[.val (.int p0), .val (.int p1), .val (.int p2), .val (.int (0 : Int32)), .unset, .unset, .unset] [])) _
    refine st1 _ ?_
    show Steps p.tables e below (T1.setTop (mkF m 14 #[.val (.int p0), .val (.int p1), .val (.int p2), .val (.int (0 : Int32)), .unset, .unset, .unset] [(.ref s_IA5)])) _
    refine XS.astore X1.here hx rfl (hb hby at_14) rfl rfl (l' := #[.val (.int p0), .val (.int p1), .val (.int p2), .val (.int (0 : Int32)), .val (.ref s_IA5), .unset, .unset]) rfl ?_
    show Steps p.tables e below (T1.setTop (mkF m 16 #[.val (.int p0), .val (.int p1), .val (.int p2), .val (.int (0 : Int32)), .val (.ref s_IA5), .unset, .unset] [])) _
    refine XS.goto X1.here hx rfl (pc0 := 16) (pc' := 37) rfl (hb hby at_16) (by decide) (by decide) ?_
    show Steps p.tables e below (T1.setTop (mkF m 37 #[.val (.int p0), .val (.int p1), .val (.int p2), .val (.int (0 : Int32)), .val (.ref s_IA5), .unset, .unset] [])) _
    refine XS.iloadN X1.here hx rfl (hb hby at_37) rfl ?_
    show Steps p.tables e below (T1.setTop (mkF m 38 #[.val (.int p0), .val (.int p1), .val (.int p2), .val (.int (0 : Int32)), .val (.ref s_IA5), .unset, .unset] [(.int p2)])) _
    refine XS.bipush X1.here hx rfl (hb hby at_38) ?_
    show Steps p.tables e below (T1.setTop (mkF m 40 #[.val (.int p0), .val (.int p1), .val (.int p2), .val (.int (0 : Int32)), .val (.ref s_IA5), .unset, .unset] [(.int (8 : Int32)), (.int p2)])) _
    refine XS.iand X1.here hx rfl (hb hby at_40) rfl ?_
    show Steps p.tables e below (T1.setTop (mkF m 41 #[.val (.int p0), .val (.int p1), .val (.int p2), .val (.int (0 : Int32)), .val (.ref s_IA5), .unset, .unset] [(.int (p2 &&& (8 : Int32)))])) _
    rw [hb1]
    show Steps p.tables e below (T1.setTop (mkF m 41 #[.val (.int p0), .val (.int p1), .val (.int p2), .val (.int (0 : Int32)), .val (.ref s_IA5), .unset, .unset] [(.int (0 : Int32))])) _
    refine XS.ifYes X1.here hx rfl (pc0 := 41) (pc' := 50) rfl (hb hby at_41) rfl (by decide +kernel) (by decide) (by decide) ?_
    show Steps p.tables e below (T1.setTop (mkF m 50 #[.val (.int p0), .val (.int p1), .val (.int p2), .val (.int (0 : Int32)), .val (.ref s_IA5), .unset, .unset] [])) _
    refine XS.iloadN X1.here hx rfl (hb hby at_50) rfl ?_
    show Steps p.tables e below (T1.setTop (mkF m 51 #[.val (.int p0), .val (.int p1), .val (.int p2), .val (.int (0 : Int32)), .val (.ref s_IA5), .unset, .unset] [(.int p2)])) _
    refine XS.bipush X1.here hx rfl (hb hby at_51) ?_
    show Steps p.tables e below (T1.setTop (mkF m 53 #[.val (.int p0), .val (.int p1), .val (.int p2), .val (.int (0 : Int32)), .val (.ref s_IA5), .unset, .unset] [(.int (7 : Int32)), (.int p2)])) _
    refine XS.iand X1.here hx rfl (hb hby at_53) rfl ?_
    show Steps p.tables e below (T1.setTop (mkF m 54 #[.val (.int p0), .val (.int p1), .val (.int p2), .val (.int (0 : Int32)), .val (.ref s_IA5), .unset, .unset] [(.int (p2 &&& (7 : Int32)))])) _
    refine st2 _ ?_
    show Steps p.tables e below (T2.setTop (mkF m 57 #[.val (.int p0), .val (.int p1), .val (.int p2), .val (.int (0 : Int32)), .val (.ref s_IA5), .unset, .unset] [(.int (own_bnd (p2 &&& (7 : Int32))))])) _
    refine XS.iloadN X2.here hx rfl (hb hby at_57) rfl ?_
    show Steps p.tables e below (T2.setTop (mkF m 58 #[.val (.int p0), .val (.int p1), .val (.int p2), .val (.int (0 : Int32)), .val (.ref s_IA5), .unset, .unset] [(.int p1), (.int (own_bnd (p2 &&& (7 : Int32))))])) _
    refine XS.bipush X2.here hx rfl (hb hby at_58) ?_
    show Steps p.tables e below (T2.setTop (mkF m 60 #[.val (.int p0), .val (.int p1), .val (.int p2), .val (.int (0 : Int32)), .val (.ref s_IA5), .unset, .unset] [(.int (7 : Int32)), (.int p1), (.int (own_bnd (p2 &&& (7 : Int32))))])) _
    refine XS.iand X2.here hx rfl (hb hby at_60) rfl ?_
    show Steps p.tables e below (T2.setTop (mkF m 61 #[.val (.int p0), .val (.int p1), .val (.int p2), .val (.int (0 : Int32)), .val (.ref s_IA5), .unset, .unset] [(.int (p1 &&& (7 : Int32))), (.int (own_bnd (p2 &&& (7 : Int32))))])) _
    refine XS.iconst X2.here hx rfl (hb hby at_61) ?_
    show Steps p.tables e below (T2.setTop (mkF m 62 #[.val (.int p0), .val (.int p1), .val (.int p2), .val (.int (0 : Int32)), .val (.ref s_IA5), .unset, .unset] [(.int (3 : Int32)), (.int (p1 &&& (7 : Int32))), (.int (own_bnd (p2 &&& (7 : Int32))))])) _
    refine XS.isub X2.here hx rfl (hb hby at_62) rfl ?_
    show Steps p.tables e below (T2.setTop (mkF m 63 #[.val (.int p0), .val (.int p1), .val (.int p2), .val (.int (0 : Int32)), .val (.ref s_IA5), .unset, .unset] [(.int ((p1 &&& (7 : Int32)) - (3 : Int32))), (.int (own_bnd (p2 &&& (7 : Int32))))])) _
    refine XS.iadd X2.here hx rfl (hb hby at_63) rfl ?_
    show Steps p.tables e below (T2.setTop (mkF m 64 #[.val (.int p0), .val (.int p1), .val (.int p2), .val (.int (0 : Int32)), .val (.ref s_IA5), .unset, .unset] [(.int ((own_bnd (p2 &&& (7 : Int32))) + ((p1 &&& (7 : Int32)) - (3 : Int32))))])) _
    refine XS.istore X2.here hx rfl (hb hby at_64) rfl (l' := #[.val (.int p0), .val (.int p1), .val (.int p2), .val (.int (0 : Int32)), .val (.ref s_IA5), .val (.int ((own_bnd (p2 &&& (7 : Int32))) + ((p1 &&& (7 : Int32)) - (3 : Int32)))), .unset]) rfl ?_
    show Steps p.tables e below (T2.setTop (mkF m 66 #[.val (.int p0), .val (.int p1), .val (.int p2), .val (.int (0 : Int32)), .val (.ref s_IA5), .val (.int ((own_bnd (p2 &&& (7 : Int32))) + ((p1 &&& (7 : Int32)) - (3 : Int32)))), .unset] [])) _
    refine XS.iloadN X2.here hx rfl (hb hby at_66) rfl ?_
    show Steps p.tables e below (T2.setTop (mkF m 67 #[.val (.int p0), .val (.int p1), .val (.int p2), .val (.int (0 : Int32)), .val (.ref s_IA5), .val (.int ((own_bnd (p2 &&& (7 : Int32))) + ((p1 &&& (7 : Int32)) - (3 : Int32)))), .unset] [(.int (0 : Int32))])) _
    refine XS.ifNo X2.here hx rfl (hb hby at_67) rfl (by decide +kernel) ?_
    show Steps p.tables e below (T2.setTop (mkF m 70 #[.val (.int p0), .val (.int p1), .val (.int p2), .val (.int (0 : Int32)), .val (.ref s_IA5), .val (.int ((own_bnd (p2 &&& (7 : Int32))) + ((p1 &&& (7 : Int32)) - (3 : Int32)))), .unset] [])) _
    refine XS.iload X2.here hx rfl (hb hby at_70) rfl ?_
    show Steps p.tables e below (T2.setTop (mkF m 72 #[.val (.int p0), .val (.int p1), .val (.int p2), .val (.int (0 : Int32)), .val (.ref s_IA5), .val (.int ((own_bnd (p2 &&& (7 : Int32))) + ((p1 &&& (7 : Int32)) - (3 : Int32)))), .unset] [(.int ((own_bnd (p2 &&& (7 : Int32))) + ((p1 &&& (7 : Int32)) - (3 : Int32))))])) _
    refine XS.ifNo X2.here hx rfl (hb hby at_72) rfl hc_lt_0 ?_
    show Steps p.tables e below (T2.setTop (mkF m 75 #[.val (.int p0), .val (.int p1), .val (.int p2), .val (.int (0 : Int32)), .val (.ref s_IA5), .val (.int ((own_bnd (p2 &&& (7 : Int32))) + ((p1 &&& (7 : Int32)) - (3 : Int32)))), .unset] [])) _
    refine XS.iload X2.here hx rfl (hb hby at_75) rfl ?_
    show Steps p.tables e below (T2.setTop (mkF m 77 #[.val (.int p0), .val (.int p1), .val (.int p2), .val (.int (0 : Int32)), .val (.ref s_IA5), .val (.int ((own_bnd (p2 &&& (7 : Int32))) + ((p1 &&& (7 : Int32)) - (3 : Int32)))), .unset] [(.int ((own_bnd (p2 &&& (7 : Int32))) + ((p1 &&& (7 : Int32)) - (3 : Int32))))])) _
    refine XS.bipush X2.here hx rfl (hb hby at_77) ?_
    show Steps p.tables e below (T2.setTop (mkF m 79 #[.val (.int p0), .val (.int p1), .val (.int p2), .val (.int (0 : Int32)), .val (.ref s_IA5), .val (.int ((own_bnd (p2 &&& (7 : Int32))) + ((p1 &&& (7 : Int32)) - (3 : Int32)))), .unset] [(.int (127 : Int32)), (.int ((own_bnd (p2 &&& (7 : Int32))) + ((p1 &&& (7 : Int32)) - (3 : Int32))))])) _
    refine XS.icmpNo X2.here hx rfl (hb hby at_79) rfl hc_gt_127 ?_
    show Steps p.tables e below (T2.setTop (mkF m 82 #[.val (.int p0), .val (.int p1), .val (.int p2), .val (.int (0 : Int32)), .val (.ref s_IA5), .val (.int ((own_bnd (p2 &&& (7 : Int32))) + ((p1 &&& (7 : Int32)) - (3 : Int32)))), .unset] [])) _
    refine XS.iconst X2.here hx rfl (hb hby at_82) ?_
    show Steps p.tables e below (T2.setTop (mkF m 83 #[.val (.int p0), .val (.int p1), .val (.int p2), .val (.int (0 : Int32)), .val (.ref s_IA5), .val (.int ((own_bnd (p2 &&& (7 : Int32))) + ((p1 &&& (7 : Int32)) - (3 : Int32)))), .unset] [(.int (1 : Int32))])) _
    refine XS.goto X2.here hx rfl (pc0 := 83) (pc' := 87) rfl (hb hby at_83) (by decide) (by decide) ?_
    show Steps p.tables e below (T2.setTop (mkF m 87 #[.val (.int p0), .val (.int p1), .val (.int p2), .val (.int (0 : Int32)), .val (.ref s_IA5), .val (.int ((own_bnd (p2 &&& (7 : Int32))) + ((p1 &&& (7 : Int32)) - (3 : Int32)))), .unset] [(.int (1 : Int32))])) _
    refine XS.istore X2.here hx rfl (hb hby at_87) rfl (l' := #[.val (.int p0), .val (.int p1), .val (.int p2), .val (.int (0 : Int32)), .val (.ref s_IA5), .val (.int ((own_bnd (p2 &&& (7 : Int32))) + ((p1 &&& (7 : Int32)) - (3 : Int32)))), .val (.int (1 : Int32))]) rfl ?_
    show Steps p.tables e below (T2.setTop (mkF m 89 #[.val (.int p0), .val (.int p1), .val (.int p2), .val (.int (0 : Int32)), .val (.ref s_IA5), .val (.int ((own_bnd (p2 &&& (7 : Int32))) + ((p1 &&& (7 : Int32)) - (3 : Int32)))), .val (.int (1 : Int32))] [])) _
    refine XS.goto X2.here hx rfl (pc0 := 89) (pc' := 166) rfl (hb hby at_89) (by decide) (by decide) ?_
    show Steps p.tables e below (T2.setTop (mkF m 166 #[.val (.int p0), .val (.int p1), .val (.int p2), .val (.int (0 : Int32)), .val (.ref s_IA5), .val (.int ((own_bnd (p2 &&& (7 : Int32))) + ((p1 &&& (7 : Int32)) - (3 : Int32)))), .val (.int (1 : Int32))] [])) _
    refine XS.aload X2.here hx rfl (hb hby at_166) rfl rfl ?_
    show Steps p.tables e below (T2.setTop (mkF m 168 #[.val (.int p0), .val (.int p1), .val (.int p2), .val (.int (0 : Int32)), .val (.ref s_IA5), .val (.int ((own_bnd (p2 &&& (7 : Int32))) + ((p1 &&& (7 : Int32)) - (3 : Int32)))), .val (.int (1 : Int32))] [(.ref s_IA5)])) _
    refine XS.iload X2.here hx rfl (hb hby at_168) rfl ?_
    show Steps p.tables e below (T2.setTop (mkF m 170 #[.val (.int p0), .val (.int p1), .val (.int p2), .val (.int (0 : Int32)), .val (.ref s_IA5), .val (.int ((own_bnd (p2 &&& (7 : Int32))) + ((p1 &&& (7 : Int32)) - (3 : Int32)))), .val (.int (1 : Int32))] [(.int ((own_bnd (p2 &&& (7 : Int32))) + ((p1 &&& (7 : Int32)) - (3 : Int32)))), (.ref s_IA5)])) _
    refine st3.trans ?_
    show Steps p.tables e below (T3.setTop (mkF m 173 #[.val (.int p0), .val (.int p1), .val (.int p2), .val (.int (0 : Int32)), .val (.ref s_IA5), .val (.int ((own_bnd (p2 &&& (7 : Int32))) + ((p1 &&& (7 : Int32)) - (3 : Int32)))), .val (.int (1 : Int32))] [(.int (1 : Int32))])) _
    refine XS.iload X3.here hx rfl (hb hby at_173) rfl ?_
    show Steps p.tables e below (T3.setTop (mkF m 175 #[.val (.int p0), .val (.int p1), .val (.int p2), .val (.int (0 : Int32)), .val (.ref s_IA5), .val (.int ((own_bnd (p2 &&& (7 : Int32))) + ((p1 &&& (7 : Int32)) - (3 : Int32)))), .val (.int (1 : Int32))] [(.int (1 : Int32)), (.int (1 : Int32))])) _
    refine XS.icmpNo X3.here hx rfl (hb hby at_175) rfl (by decide +kernel) ?_
    show Steps p.tables e below (T3.setTop (mkF m 178 #[.val (.int p0), .val (.int p1), .val (.int p2), .val (.int (0 : Int32)), .val (.ref s_IA5), .val (.int ((own_bnd (p2 &&& (7 : Int32))) + ((p1 &&& (7 : Int32)) - (3 : Int32)))), .val (.int (1 : Int32))] [])) _
    refine XS.iconst X3.here hx rfl (hb hby at_178) ?_
    show Steps p.tables e below (T3.setTop (mkF m 179 #[.val (.int p0), .val (.int p1), .val (.int p2), .val (.int (0 : Int32)), .val (.ref s_IA5), .val (.int ((own_bnd (p2 &&& (7 : Int32))) + ((p1 &&& (7 : Int32)) - (3 : Int32)))), .val (.int (1 : Int32))] [(.int (1 : Int32))])) _
    refine XS.goto X3.here hx rfl (pc0 := 179) (pc' := 183) rfl (hb hby at_179) (by decide) (by decide) ?_
    show Steps p.tables e below (T3.setTop (mkF m 183 #[.val (.int p0), .val (.int p1), .val (.int p2), .val (.int (0 : Int32)), .val (.ref s_IA5), .val (.int ((own_bnd (p2 &&& (7 : Int32))) + ((p1 &&& (7 : Int32)) - (3 : Int32)))), .val (.int (1 : Int32))] [(.int (1 : Int32))])) _
    exact retN X3 hx (t := .boolean) Bd.returns (by simp) (hb hby at_183) hr
  · exact ⟨rfl, N3, e3⟩
set_option maxRecDepth 65536 in
set_option maxHeartbeats 40000000 in
theorem r12 (l : Launch) (Z : State) (a0 : Array Value) (hw : ∀ d ∈ tables_1, d.before a0 Z = true) (ws : List Jvm.Cond) (h0 : Heap) (n0 : Nat) (s_IA5 : Addr) (s_BMP : Addr) (s_UTF8 : Addr) (K : Ctx Z h0 s_IA5 s_BMP s_UTF8) (p1 : Int32) (p2 : Int32) (hc_lt_0 : ifCond.holds .lt ((own_bnd (p2 &&& (7 : Int32))) + ((p1 &&& (7 : Int32)) - (3 : Int32))) = false) (hc_gt_127 : if_icmp.holds .gt ((own_bnd (p2 &&& (7 : Int32))) + ((p1 &&& (7 : Int32)) - (3 : Int32))) (127 : Int32) = true) :
    MetFree l (⟨"com/example/plainwire/plainwire/definitions/Repertoire", "holds", "(I)Z"⟩ : MethodName) (head1 (Jvm.Cond.code (⟨"com/example/plainwire/plainwire/definitions/Repertoire", "holds", "(I)Z"⟩ : MethodName) prog_37_method_5_code 2 (some .boolean) :: ws) ({ frames := 0, cells := 0, slots := 0, locals := 0 } : Room)) (fun a U => a = #[(.ref s_IA5), (.int ((own_bnd (p2 &&& (7 : Int32))) + ((p1 &&& (7 : Int32)) - (3 : Int32))))] ∧ Z.Warmed39 U.vm ∧ U.heap = h0) (fun _ _ _ _ _ => True) (fun _ U o U' => ∃ v L, o = .returned v ∧ QV (.int (0 : Int32)) h0 n0 v U'.heap L ∧ FrameEnd U o U' L ({ frames := 0, cells := 0, slots := 0, locals := 0 } : Room).cells ({ frames := 0, cells := 0, slots := 0, locals := 0 } : Room).slots) := by
  obtain ⟨S_IA5, E_IA5, F_IA5_lastCodePoint, S_BMP, E_BMP, F_BMP_lastCodePoint, S_UTF8, E_UTF8, F_UTF8_lastCodePoint⟩ := id K
  refine MetFree.of_bodySF (plainFor_of_name pn1) hisR ?_
  intro p e s m args below meth c s₁ Bd hml0 hP hK
  obtain ⟨rfl, hZ, hh⟩ := hP
  have hx := Bd.exec
  have hby := Bd.bytes
  have hml : c.maxLocals = 2 := hml0
  have hown : s.vm.findClass "com/example/plainwire/plainwire/definitions/Repertoire" = some m.cls := findClass_of_methodNamed Bd.named
  have X0 : Stand p l e ({ frames := 0, cells := 0, slots := 0, locals := 0 } : Room) s m #[(.ref s_IA5), (.int ((own_bnd (p2 &&& (7 : Int32))) + ((p1 &&& (7 : Int32)) - (3 : Int32))))] below meth c s₁ [] 0 0 := Stand.of_body Bd
  have e0 : s₁.heap = h0 := by rw [← hh, Bd.state]; rfl
  have N0 := Fr.nil n0
  have pre0 : ∀ t, Steps p.tables e below (s₁.setTop (mkF m 0 #[.val (.ref s_IA5), .val (.int ((own_bnd (p2 &&& (7 : Int32))) + ((p1 &&& (7 : Int32)) - (3 : Int32))))] [])) t → Steps p.tables e below (s₁.setTop (entryFrame m #[(.ref s_IA5), (.int ((own_bnd (p2 &&& (7 : Int32))) + ((p1 &&& (7 : Int32)) - (3 : Int32))))] 2)) t := fun t k => castTop (by first | (simp [entryFrame, mkF, argsToLocals, Value.category]; done) | rfl) k
  obtain ⟨T1, X1, e1, st1⟩ := getF X0 hx hZ hown (host := "") (Or.inl (hw _ (List.mem_of_getElem? (i := 14) rfl))) Via.refl e0 F_IA5_lastCodePoint (g := (mkF m 6 #[.val (.ref s_IA5), .val (.int ((own_bnd (p2 &&& (7 : Int32))) + ((p1 &&& (7 : Int32)) - (3 : Int32))))] [(.ref s_IA5), (.int ((own_bnd (p2 &&& (7 : Int32))) + ((p1 &&& (7 : Int32)) - (3 : Int32))))])) rfl rfl (hb hby d1_6)
  obtain ⟨fs, hr, hrun, hended, hW, hsame⟩ := X1.leave (v := some (.int (0 : Int32))) (fun h => by rw [Bd.returns] at h; cases h)
  refine ⟨_, _, pre0 _ ?_, hrun, hended, _, _, rfl, ?_, ⟨_, rfl⟩, hW, hsame.mono (by decide) (by decide)⟩
  · show Steps p.tables e below (s₁.setTop (mkF m 0 #[.val (.ref s_IA5), .val (.int ((own_bnd (p2 &&& (7 : Int32))) + ((p1 &&& (7 : Int32)) - (3 : Int32))))] [])) _
    refine XS.iloadN X0.here hx rfl (hb hby d1_0) rfl ?_
    show Steps p.tables e below (s₁.setTop (mkF m 1 #[.val (.ref s_IA5), .val (.int ((own_bnd (p2 &&& (7 : Int32))) + ((p1 &&& (7 : Int32)) - (3 : Int32))))] [(.int ((own_bnd (p2 &&& (7 : Int32))) + ((p1 &&& (7 : Int32)) - (3 : Int32))))])) _
    refine XS.ifNo X0.here hx rfl (hb hby d1_1) rfl hc_lt_0 ?_
    show Steps p.tables e below (s₁.setTop (mkF m 4 #[.val (.ref s_IA5), .val (.int ((own_bnd (p2 &&& (7 : Int32))) + ((p1 &&& (7 : Int32)) - (3 : Int32))))] [])) _
    refine XS.iloadN X0.here hx rfl (hb hby d1_4) rfl ?_
    show Steps p.tables e below (s₁.setTop (mkF m 5 #[.val (.ref s_IA5), .val (.int ((own_bnd (p2 &&& (7 : Int32))) + ((p1 &&& (7 : Int32)) - (3 : Int32))))] [(.int ((own_bnd (p2 &&& (7 : Int32))) + ((p1 &&& (7 : Int32)) - (3 : Int32))))])) _
    refine XS.aloadN X0.here hx rfl (hb hby d1_5) rfl rfl ?_
    show Steps p.tables e below (s₁.setTop (mkF m 6 #[.val (.ref s_IA5), .val (.int ((own_bnd (p2 &&& (7 : Int32))) + ((p1 &&& (7 : Int32)) - (3 : Int32))))] [(.ref s_IA5), (.int ((own_bnd (p2 &&& (7 : Int32))) + ((p1 &&& (7 : Int32)) - (3 : Int32))))])) _
    refine st1 _ ?_
    show Steps p.tables e below (T1.setTop (mkF m 9 #[.val (.ref s_IA5), .val (.int ((own_bnd (p2 &&& (7 : Int32))) + ((p1 &&& (7 : Int32)) - (3 : Int32))))] [(.int (127 : Int32)), (.int ((own_bnd (p2 &&& (7 : Int32))) + ((p1 &&& (7 : Int32)) - (3 : Int32))))])) _
    refine XS.icmpYes X1.here hx rfl (pc0 := 9) (pc' := 28) rfl (hb hby d1_9) rfl hc_gt_127 (by decide) (by decide) ?_
    show Steps p.tables e below (T1.setTop (mkF m 28 #[.val (.ref s_IA5), .val (.int ((own_bnd (p2 &&& (7 : Int32))) + ((p1 &&& (7 : Int32)) - (3 : Int32))))] [])) _
    refine XS.iconst X1.here hx rfl (hb hby d1_28) ?_
    show Steps p.tables e below (T1.setTop (mkF m 29 #[.val (.ref s_IA5), .val (.int ((own_bnd (p2 &&& (7 : Int32))) + ((p1 &&& (7 : Int32)) - (3 : Int32))))] [(.int (0 : Int32))])) _
    exact retN X1 hx (t := .boolean) Bd.returns (by simp) (hb hby d1_29) hr
  · exact ⟨rfl, N0, e1⟩
set_option maxRecDepth 65536 in
set_option maxHeartbeats 40000000 in
theorem law_k0_0_2 (l : Launch) (Z : State) (a0 : Array Value) (hw : ∀ d ∈ tables_1, d.before a0 Z = true) (ws : List Jvm.Cond) (h0 : Heap) (n0 : Nat) (s_IA5 : Addr) (s_BMP : Addr) (s_UTF8 : Addr) (K : Ctx Z h0 s_IA5 s_BMP s_UTF8) (p0 : Int32) (p1 : Int32) (p2 : Int32) (ha : ((p0 &&& (2147483647 : Int32)) % (3 : Int32)) = (0 : Int32)) (hb1 : (p2 &&& (8 : Int32)) = (0 : Int32)) (hc_lt_0 : ifCond.holds .lt ((own_bnd (p2 &&& (7 : Int32))) + ((p1 &&& (7 : Int32)) - (3 : Int32))) = false) (hc_gt_127 : if_icmp.holds .gt ((own_bnd (p2 &&& (7 : Int32))) + ((p1 &&& (7 : Int32)) - (3 : Int32))) (127 : Int32) = true) :
    MetFree l x (head1 (Jvm.Cond.code x code maxLocals ret :: ws) room_1) (fun a U => a = #[(.int p0), (.int p1), (.int p2)] ∧ Z.Warmed39 U.vm ∧ U.heap = h0) (fun _ _ _ _ _ => True) (fun _ U o U' => ∃ v L, o = .returned v ∧ QV (.int (1 : Int32)) h0 n0 v U'.heap L ∧ FrameEnd U o U' L room_1.cells room_1.slots) := by
  obtain ⟨S_IA5, E_IA5, F_IA5_lastCodePoint, S_BMP, E_BMP, F_BMP_lastCodePoint, S_UTF8, E_UTF8, F_UTF8_lastCodePoint⟩ := id K
  refine MetFree.of_bodySF (plainFor_of_name pn2) hisR ?_
  intro p e s m args below meth c s₁ Bd hml0 hP hK
  obtain ⟨rfl, hZ, hh⟩ := hP
  have hx := Bd.exec
  have hby := Bd.bytes
  have hml : c.maxLocals = 7 := hml0
  have hown : s.vm.findClass "com/example/plainwire/plainwire/definitions/RepertoireHoldsPinLaw" = some m.cls := findClass_of_methodNamed Bd.named
  have X0 : Stand p l e room_1 s m #[(.int p0), (.int p1), (.int p2)] below meth c s₁ [] 0 0 := Stand.of_body Bd
  have e0 : s₁.heap = h0 := by rw [← hh, Bd.state]; rfl
  have N0 := Fr.nil n0
  have pre0 : ∀ t, Steps p.tables e below (s₁.setTop (mkF m 0 #[.val (.int p0), .val (.int p1), .val (.int p2), .unset, .unset, .unset, .unset] [])) t → Steps p.tables e below (s₁.setTop (entryFrame m #[(.int p0), (.int p1), (.int p2)] maxLocals)) t := fun t k => castTop (by first | (simp [entryFrame, mkF, argsToLocals, Value.category, maxLocals]; done) | rfl) k
  obtain ⟨T1, X1, e1, st1⟩ := getS X0 hx hZ hown (host := "") (hw _ (List.mem_of_getElem? (i := 1) rfl)) Via.refl e0 S_IA5 (g := (mkF m 11 #[.val (.int p0), .val (.int p1), .val (.int p2), .val (.int (0 : Int32)), .unset, .unset, .unset] [])) rfl (hb hby at_11)
  obtain ⟨_, _, ⟨T2, L2, k2, n2⟩, -, X2, ⟨Lc2, hQ2, l2, y2, z2⟩, st2⟩ := Jvm.LawKit.callS X1 hx (y := (⟨"com/example/plainwire/plainwire/definitions/RepertoireHoldsPinLaw", "boundary", "(I)I"⟩ : MethodName)) hown (mvT hZ (hw _ (List.mem_of_getElem? (i := 4) rfl))) (mvT hZ (hw _ (List.mem_of_getElem? (i := 5) rfl))) (mvT hZ (hw _ (List.mem_of_getElem? (i := 6) rfl))) (mvT hZ (hw _ (List.mem_of_getElem? (i := 7) rfl))) (by decide) (backOf (W := 0) (own_bndK l Z a0 hw [] h0 n0 s_IA5 s_BMP s_UTF8 K (p2 &&& (7 : Int32)) (own_and8 p2)) hZ (hw _ (List.mem_of_getElem? (i := 7) rfl)) (hw _ (List.mem_of_getElem? (i := 6) rfl)) (by decide) (by decide)) (g := (mkF m 54 #[.val (.int p0), .val (.int p1), .val (.int p2), .val (.int (0 : Int32)), .val (.ref s_IA5), .unset, .unset] [(.int (p2 &&& (7 : Int32)))])) rfl (by rw [hml]; rfl) (argsL := [(.int (p2 &&& (7 : Int32)))]) (rest := []) (lenOf pd0 rfl) rfl (by show 2 * 0 + _ ≤ _; exact Nat.le_of_eq rfl) (hb hby at_54) (fun _ _ => ⟨rfl, e1, (by decide : 0 + 0 ≤ _), (by decide : 0 + 0 ≤ _)⟩)
  dsimp only [Pt.U, Pt.locs, Pt.cells, Pt.slots] at X2 l2 y2 z2 st2 hQ2
  subst l2 y2 z2
  obtain ⟨rfl, N2q, e2⟩ := hQ2
  have N2 := Fr.app N0 N2q
  obtain ⟨cq3, kq3, q3a, q3b, q3c⟩ := isOf hZ e2 E_IA5
  obtain ⟨_, _, ⟨T3, L3, k3, n3⟩, -, X3, ⟨Lc3, hQ3, l3, y3, z3⟩, st3⟩ := X2.virtualBack hx (y := (⟨"com/example/plainwire/plainwire/definitions/Repertoire", "holds", "(I)Z"⟩ : MethodName)) (z := (⟨"com/example/plainwire/plainwire/definitions/Repertoire", "holds", "(I)Z"⟩ : MethodName)) hown (mvT hZ (hw _ (List.mem_of_getElem? (i := 9) rfl))) (mvT hZ (hw _ (List.mem_of_getElem? (i := 10) rfl))) (notFace_of_selects (args := #[]) (mvT hZ (hw _ (List.mem_of_getElem? (i := 12) rfl)))) (mvT hZ (hw _ (List.mem_of_getElem? (i := 12) rfl))) (mvT hZ (hw _ (List.mem_of_getElem? (i := 11) rfl))) (by decide) (backOf (W := 0) (r12 l Z a0 hw [] h0 n0 s_IA5 s_BMP s_UTF8 K p1 p2 hc_lt_0 hc_gt_127) hZ (hw _ (List.mem_of_getElem? (i := 13) rfl)) (hw _ (List.mem_of_getElem? (i := 2) rfl)) (by decide) (by decide)) q3a q3c (g := (mkF m 170 #[.val (.int p0), .val (.int p1), .val (.int p2), .val (.int (0 : Int32)), .val (.ref s_IA5), .val (.int ((own_bnd (p2 &&& (7 : Int32))) + ((p1 &&& (7 : Int32)) - (3 : Int32)))), .val (.int (0 : Int32))] [(.int ((own_bnd (p2 &&& (7 : Int32))) + ((p1 &&& (7 : Int32)) - (3 : Int32)))), (.ref s_IA5)])) rfl (by rw [hml]; rfl) (Steps.refl _) (argsL := [(.int ((own_bnd (p2 &&& (7 : Int32))) + ((p1 &&& (7 : Int32)) - (3 : Int32))))]) (rest := []) (lenOf pd1 rfl) rfl (by show 2 * 0 + _ ≤ _; exact Nat.le_of_eq rfl) (hb hby at_170) (fun _ _ => ⟨rfl, e2, (by decide : 0 + 0 ≤ _), (by decide : 0 + 0 ≤ _)⟩)
  dsimp only [Pt.U, Pt.locs, Pt.cells, Pt.slots] at X3 l3 y3 z3 st3 hQ3
  subst l3 y3 z3
  obtain ⟨rfl, N3q, e3⟩ := hQ3
  have N3 := Fr.app N2 N3q
  obtain ⟨fs, hr, hrun, hended, hW, hsame⟩ := X3.leave (v := some (.int (1 : Int32))) (fun h => by rw [Bd.returns] at h; cases h)
  refine ⟨_, _, pre0 _ ?_, hrun, hended, _, _, rfl, ?_, ⟨_, rfl⟩, hW, hsame.mono (by decide) (by decide)⟩
  · show Steps p.tables e below (s₁.setTop (mkF m 0 #[.val (.int p0), .val (.int p1), .val (.int p2), .unset, .unset, .unset, .unset] [])) _
    refine XS.iloadN X0.here hx rfl (hb hby at_0) rfl ?_
    show Steps p.tables e below (s₁.setTop (mkF m 1 #[.val (.int p0), .val (.int p1), .val (.int p2), .unset, .unset, .unset, .unset] [(.int p0)])) _
    refine X0.ldcInt hx hown (mvT hZ (hw _ (List.mem_of_getElem? (i := 0) rfl))) (g := (mkF m 1 #[.val (.int p0), .val (.int p1), .val (.int p2), .unset, .unset, .unset, .unset] [(.int p0)])) rfl (hb hby at_1) _ ?_
    show Steps p.tables e below (s₁.setTop (mkF m 3 #[.val (.int p0), .val (.int p1), .val (.int p2), .unset, .unset, .unset, .unset] [(.int (2147483647 : Int32)), (.int p0)])) _
    refine XS.iand X0.here hx rfl (hb hby at_3) rfl ?_
    show Steps p.tables e below (s₁.setTop (mkF m 4 #[.val (.int p0), .val (.int p1), .val (.int p2), .unset, .unset, .unset, .unset] [(.int (p0 &&& (2147483647 : Int32)))])) _
    refine XS.iconst X0.here hx rfl (hb hby at_4) ?_
    show Steps p.tables e below (s₁.setTop (mkF m 5 #[.val (.int p0), .val (.int p1), .val (.int p2), .unset, .unset, .unset, .unset] [(.int (3 : Int32)), (.int (p0 &&& (2147483647 : Int32)))])) _
    refine Jvm.RoadKit.iremM X0 hx rfl (hb hby at_5) rfl (by decide) ?_
    show Steps p.tables e below (s₁.setTop (mkF m 6 #[.val (.int p0), .val (.int p1), .val (.int p2), .unset, .unset, .unset, .unset] [(.int ((p0 &&& (2147483647 : Int32)) % (3 : Int32)))])) _
    rw [ha]
    show Steps p.tables e below (s₁.setTop (mkF m 6 #[.val (.int p0), .val (.int p1), .val (.int p2), .unset, .unset, .unset, .unset] [(.int (0 : Int32))])) _
    refine XS.istoreN X0.here hx rfl (hb hby at_6) rfl (l' := #[.val (.int p0), .val (.int p1), .val (.int p2), .val (.int (0 : Int32)), .unset, .unset, .unset]) rfl ?_
    show Steps p.tables e below (s₁.setTop (mkF m 7 #[.val (.int p0), .val (.int p1), .val (.int p2), .val (.int (0 : Int32)), .unset, .unset, .unset] [])) _
    refine XS.iloadN X0.here hx rfl (hb hby at_7) rfl ?_
    show Steps p.tables e below (s₁.setTop (mkF m 8 #[.val (.int p0), .val (.int p1), .val (.int p2), .val (.int (0 : Int32)), .unset, .unset, .unset] [(.int (0 : Int32))])) _
    refine XS.ifNo X0.here hx rfl (hb hby at_8) rfl (by decide +kernel) ?_
    show Steps p.tables e below (s₁.setTop (mkF m 11 #[.val (.int p0), .val (.int p1), .val (.int p2), .val (.int (0 : Int32)), .unset, .unset, .unset] [])) _
    refine st1 _ ?_
    show Steps p.tables e below (T1.setTop (mkF m 14 #[.val (.int p0), .val (.int p1), .val (.int p2), .val (.int (0 : Int32)), .unset, .unset, .unset] [(.ref s_IA5)])) _
    refine XS.astore X1.here hx rfl (hb hby at_14) rfl rfl (l' := #[.val (.int p0), .val (.int p1), .val (.int p2), .val (.int (0 : Int32)), .val (.ref s_IA5), .unset, .unset]) rfl ?_
    show Steps p.tables e below (T1.setTop (mkF m 16 #[.val (.int p0), .val (.int p1), .val (.int p2), .val (.int (0 : Int32)), .val (.ref s_IA5), .unset, .unset] [])) _
    refine XS.goto X1.here hx rfl (pc0 := 16) (pc' := 37) rfl (hb hby at_16) (by decide) (by decide) ?_
    show Steps p.tables e below (T1.setTop (mkF m 37 #[.val (.int p0), .val (.int p1), .val (.int p2), .val (.int (0 : Int32)), .val (.ref s_IA5), .unset, .unset] [])) _
    refine XS.iloadN X1.here hx rfl (hb hby at_37) rfl ?_
    show Steps p.tables e below (T1.setTop (mkF m 38 #[.val (.int p0), .val (.int p1), .val (.int p2), .val (.int (0 : Int32)), .val (.ref s_IA5), .unset, .unset] [(.int p2)])) _
    refine XS.bipush X1.here hx rfl (hb hby at_38) ?_
    show Steps p.tables e below (T1.setTop (mkF m 40 #[.val (.int p0), .val (.int p1), .val (.int p2), .val (.int (0 : Int32)), .val (.ref s_IA5), .unset, .unset] [(.int (8 : Int32)), (.int p2)])) _
    refine XS.iand X1.here hx rfl (hb hby at_40) rfl ?_
    show Steps p.tables e below (T1.setTop (mkF m 41 #[.val (.int p0), .val (.int p1), .val (.int p2), .val (.int (0 : Int32)), .val (.ref s_IA5), .unset, .unset] [(.int (p2 &&& (8 : Int32)))])) _
    rw [hb1]
    show Steps p.tables e below (T1.setTop (mkF m 41 #[.val (.int p0), .val (.int p1), .val (.int p2), .val (.int (0 : Int32)), .val (.ref s_IA5), .unset, .unset] [(.int (0 : Int32))])) _
    refine XS.ifYes X1.here hx rfl (pc0 := 41) (pc' := 50) rfl (hb hby at_41) rfl (by decide +kernel) (by decide) (by decide) ?_
    show Steps p.tables e below (T1.setTop (mkF m 50 #[.val (.int p0), .val (.int p1), .val (.int p2), .val (.int (0 : Int32)), .val (.ref s_IA5), .unset, .unset] [])) _
    refine XS.iloadN X1.here hx rfl (hb hby at_50) rfl ?_
    show Steps p.tables e below (T1.setTop (mkF m 51 #[.val (.int p0), .val (.int p1), .val (.int p2), .val (.int (0 : Int32)), .val (.ref s_IA5), .unset, .unset] [(.int p2)])) _
    refine XS.bipush X1.here hx rfl (hb hby at_51) ?_
    show Steps p.tables e below (T1.setTop (mkF m 53 #[.val (.int p0), .val (.int p1), .val (.int p2), .val (.int (0 : Int32)), .val (.ref s_IA5), .unset, .unset] [(.int (7 : Int32)), (.int p2)])) _
    refine XS.iand X1.here hx rfl (hb hby at_53) rfl ?_
    show Steps p.tables e below (T1.setTop (mkF m 54 #[.val (.int p0), .val (.int p1), .val (.int p2), .val (.int (0 : Int32)), .val (.ref s_IA5), .unset, .unset] [(.int (p2 &&& (7 : Int32)))])) _
    refine st2 _ ?_
    show Steps p.tables e below (T2.setTop (mkF m 57 #[.val (.int p0), .val (.int p1), .val (.int p2), .val (.int (0 : Int32)), .val (.ref s_IA5), .unset, .unset] [(.int (own_bnd (p2 &&& (7 : Int32))))])) _
    refine XS.iloadN X2.here hx rfl (hb hby at_57) rfl ?_
    show Steps p.tables e below (T2.setTop (mkF m 58 #[.val (.int p0), .val (.int p1), .val (.int p2), .val (.int (0 : Int32)), .val (.ref s_IA5), .unset, .unset] [(.int p1), (.int (own_bnd (p2 &&& (7 : Int32))))])) _
    refine XS.bipush X2.here hx rfl (hb hby at_58) ?_
    show Steps p.tables e below (T2.setTop (mkF m 60 #[.val (.int p0), .val (.int p1), .val (.int p2), .val (.int (0 : Int32)), .val (.ref s_IA5), .unset, .unset] [(.int (7 : Int32)), (.int p1), (.int (own_bnd (p2 &&& (7 : Int32))))])) _
    refine XS.iand X2.here hx rfl (hb hby at_60) rfl ?_
    show Steps p.tables e below (T2.setTop (mkF m 61 #[.val (.int p0), .val (.int p1), .val (.int p2), .val (.int (0 : Int32)), .val (.ref s_IA5), .unset, .unset] [(.int (p1 &&& (7 : Int32))), (.int (own_bnd (p2 &&& (7 : Int32))))])) _
    refine XS.iconst X2.here hx rfl (hb hby at_61) ?_
    show Steps p.tables e below (T2.setTop (mkF m 62 #[.val (.int p0), .val (.int p1), .val (.int p2), .val (.int (0 : Int32)), .val (.ref s_IA5), .unset, .unset] [(.int (3 : Int32)), (.int (p1 &&& (7 : Int32))), (.int (own_bnd (p2 &&& (7 : Int32))))])) _
    refine XS.isub X2.here hx rfl (hb hby at_62) rfl ?_
    show Steps p.tables e below (T2.setTop (mkF m 63 #[.val (.int p0), .val (.int p1), .val (.int p2), .val (.int (0 : Int32)), .val (.ref s_IA5), .unset, .unset] [(.int ((p1 &&& (7 : Int32)) - (3 : Int32))), (.int (own_bnd (p2 &&& (7 : Int32))))])) _
    refine XS.iadd X2.here hx rfl (hb hby at_63) rfl ?_
    show Steps p.tables e below (T2.setTop (mkF m 64 #[.val (.int p0), .val (.int p1), .val (.int p2), .val (.int (0 : Int32)), .val (.ref s_IA5), .unset, .unset] [(.int ((own_bnd (p2 &&& (7 : Int32))) + ((p1 &&& (7 : Int32)) - (3 : Int32))))])) _
    refine XS.istore X2.here hx rfl (hb hby at_64) rfl (l' := #[.val (.int p0), .val (.int p1), .val (.int p2), .val (.int (0 : Int32)), .val (.ref s_IA5), .val (.int ((own_bnd (p2 &&& (7 : Int32))) + ((p1 &&& (7 : Int32)) - (3 : Int32)))), .unset]) rfl ?_
    show Steps p.tables e below (T2.setTop (mkF m 66 #[.val (.int p0), .val (.int p1), .val (.int p2), .val (.int (0 : Int32)), .val (.ref s_IA5), .val (.int ((own_bnd (p2 &&& (7 : Int32))) + ((p1 &&& (7 : Int32)) - (3 : Int32)))), .unset] [])) _
    refine XS.iloadN X2.here hx rfl (hb hby at_66) rfl ?_
    show Steps p.tables e below (T2.setTop (mkF m 67 #[.val (.int p0), .val (.int p1), .val (.int p2), .val (.int (0 : Int32)), .val (.ref s_IA5), .val (.int ((own_bnd (p2 &&& (7 : Int32))) + ((p1 &&& (7 : Int32)) - (3 : Int32)))), .unset] [(.int (0 : Int32))])) _
    refine XS.ifNo X2.here hx rfl (hb hby at_67) rfl (by decide +kernel) ?_
    show Steps p.tables e below (T2.setTop (mkF m 70 #[.val (.int p0), .val (.int p1), .val (.int p2), .val (.int (0 : Int32)), .val (.ref s_IA5), .val (.int ((own_bnd (p2 &&& (7 : Int32))) + ((p1 &&& (7 : Int32)) - (3 : Int32)))), .unset] [])) _
    refine XS.iload X2.here hx rfl (hb hby at_70) rfl ?_
    show Steps p.tables e below (T2.setTop (mkF m 72 #[.val (.int p0), .val (.int p1), .val (.int p2), .val (.int (0 : Int32)), .val (.ref s_IA5), .val (.int ((own_bnd (p2 &&& (7 : Int32))) + ((p1 &&& (7 : Int32)) - (3 : Int32)))), .unset] [(.int ((own_bnd (p2 &&& (7 : Int32))) + ((p1 &&& (7 : Int32)) - (3 : Int32))))])) _
    refine XS.ifNo X2.here hx rfl (hb hby at_72) rfl hc_lt_0 ?_
    show Steps p.tables e below (T2.setTop (mkF m 75 #[.val (.int p0), .val (.int p1), .val (.int p2), .val (.int (0 : Int32)), .val (.ref s_IA5), .val (.int ((own_bnd (p2 &&& (7 : Int32))) + ((p1 &&& (7 : Int32)) - (3 : Int32)))), .unset] [])) _
    refine XS.iload X2.here hx rfl (hb hby at_75) rfl ?_
    show Steps p.tables e below (T2.setTop (mkF m 77 #[.val (.int p0), .val (.int p1), .val (.int p2), .val (.int (0 : Int32)), .val (.ref s_IA5), .val (.int ((own_bnd (p2 &&& (7 : Int32))) + ((p1 &&& (7 : Int32)) - (3 : Int32)))), .unset] [(.int ((own_bnd (p2 &&& (7 : Int32))) + ((p1 &&& (7 : Int32)) - (3 : Int32))))])) _
    refine XS.bipush X2.here hx rfl (hb hby at_77) ?_
    show Steps p.tables e below (T2.setTop (mkF m 79 #[.val (.int p0), .val (.int p1), .val (.int p2), .val (.int (0 : Int32)), .val (.ref s_IA5), .val (.int ((own_bnd (p2 &&& (7 : Int32))) + ((p1 &&& (7 : Int32)) - (3 : Int32)))), .unset] [(.int (127 : Int32)), (.int ((own_bnd (p2 &&& (7 : Int32))) + ((p1 &&& (7 : Int32)) - (3 : Int32))))])) _
    refine XS.icmpYes X2.here hx rfl (pc0 := 79) (pc' := 86) rfl (hb hby at_79) rfl hc_gt_127 (by decide) (by decide) ?_
    show Steps p.tables e below (T2.setTop (mkF m 86 #[.val (.int p0), .val (.int p1), .val (.int p2), .val (.int (0 : Int32)), .val (.ref s_IA5), .val (.int ((own_bnd (p2 &&& (7 : Int32))) + ((p1 &&& (7 : Int32)) - (3 : Int32)))), .unset] [])) _
    refine XS.iconst X2.here hx rfl (hb hby at_86) ?_
    show Steps p.tables e below (T2.setTop (mkF m 87 #[.val (.int p0), .val (.int p1), .val (.int p2), .val (.int (0 : Int32)), .val (.ref s_IA5), .val (.int ((own_bnd (p2 &&& (7 : Int32))) + ((p1 &&& (7 : Int32)) - (3 : Int32)))), .unset] [(.int (0 : Int32))])) _
    refine XS.istore X2.here hx rfl (hb hby at_87) rfl (l' := #[.val (.int p0), .val (.int p1), .val (.int p2), .val (.int (0 : Int32)), .val (.ref s_IA5), .val (.int ((own_bnd (p2 &&& (7 : Int32))) + ((p1 &&& (7 : Int32)) - (3 : Int32)))), .val (.int (0 : Int32))]) rfl ?_
    show Steps p.tables e below (T2.setTop (mkF m 89 #[.val (.int p0), .val (.int p1), .val (.int p2), .val (.int (0 : Int32)), .val (.ref s_IA5), .val (.int ((own_bnd (p2 &&& (7 : Int32))) + ((p1 &&& (7 : Int32)) - (3 : Int32)))), .val (.int (0 : Int32))] [])) _
    refine XS.goto X2.here hx rfl (pc0 := 89) (pc' := 166) rfl (hb hby at_89) (by decide) (by decide) ?_
    show Steps p.tables e below (T2.setTop (mkF m 166 #[.val (.int p0), .val (.int p1), .val (.int p2), .val (.int (0 : Int32)), .val (.ref s_IA5), .val (.int ((own_bnd (p2 &&& (7 : Int32))) + ((p1 &&& (7 : Int32)) - (3 : Int32)))), .val (.int (0 : Int32))] [])) _
    refine XS.aload X2.here hx rfl (hb hby at_166) rfl rfl ?_
    show Steps p.tables e below (T2.setTop (mkF m 168 #[.val (.int p0), .val (.int p1), .val (.int p2), .val (.int (0 : Int32)), .val (.ref s_IA5), .val (.int ((own_bnd (p2 &&& (7 : Int32))) + ((p1 &&& (7 : Int32)) - (3 : Int32)))), .val (.int (0 : Int32))] [(.ref s_IA5)])) _
    refine XS.iload X2.here hx rfl (hb hby at_168) rfl ?_
    show Steps p.tables e below (T2.setTop (mkF m 170 #[.val (.int p0), .val (.int p1), .val (.int p2), .val (.int (0 : Int32)), .val (.ref s_IA5), .val (.int ((own_bnd (p2 &&& (7 : Int32))) + ((p1 &&& (7 : Int32)) - (3 : Int32)))), .val (.int (0 : Int32))] [(.int ((own_bnd (p2 &&& (7 : Int32))) + ((p1 &&& (7 : Int32)) - (3 : Int32)))), (.ref s_IA5)])) _
    refine st3.trans ?_
    show Steps p.tables e below (T3.setTop (mkF m 173 #[.val (.int p0), .val (.int p1), .val (.int p2), .val (.int (0 : Int32)), .val (.ref s_IA5), .val (.int ((own_bnd (p2 &&& (7 : Int32))) + ((p1 &&& (7 : Int32)) - (3 : Int32)))), .val (.int (0 : Int32))] [(.int (0 : Int32))])) _
    refine XS.iload X3.here hx rfl (hb hby at_173) rfl ?_
    show Steps p.tables e below (T3.setTop (mkF m 175 #[.val (.int p0), .val (.int p1), .val (.int p2), .val (.int (0 : Int32)), .val (.ref s_IA5), .val (.int ((own_bnd (p2 &&& (7 : Int32))) + ((p1 &&& (7 : Int32)) - (3 : Int32)))), .val (.int (0 : Int32))] [(.int (0 : Int32)), (.int (0 : Int32))])) _
    refine XS.icmpNo X3.here hx rfl (hb hby at_175) rfl (by decide +kernel) ?_
    show Steps p.tables e below (T3.setTop (mkF m 178 #[.val (.int p0), .val (.int p1), .val (.int p2), .val (.int (0 : Int32)), .val (.ref s_IA5), .val (.int ((own_bnd (p2 &&& (7 : Int32))) + ((p1 &&& (7 : Int32)) - (3 : Int32)))), .val (.int (0 : Int32))] [])) _
    refine XS.iconst X3.here hx rfl (hb hby at_178) ?_
    show Steps p.tables e below (T3.setTop (mkF m 179 #[.val (.int p0), .val (.int p1), .val (.int p2), .val (.int (0 : Int32)), .val (.ref s_IA5), .val (.int ((own_bnd (p2 &&& (7 : Int32))) + ((p1 &&& (7 : Int32)) - (3 : Int32)))), .val (.int (0 : Int32))] [(.int (1 : Int32))])) _
    refine XS.goto X3.here hx rfl (pc0 := 179) (pc' := 183) rfl (hb hby at_179) (by decide) (by decide) ?_
    show Steps p.tables e below (T3.setTop (mkF m 183 #[.val (.int p0), .val (.int p1), .val (.int p2), .val (.int (0 : Int32)), .val (.ref s_IA5), .val (.int ((own_bnd (p2 &&& (7 : Int32))) + ((p1 &&& (7 : Int32)) - (3 : Int32)))), .val (.int (0 : Int32))] [(.int (1 : Int32))])) _
    exact retN X3 hx (t := .boolean) Bd.returns (by simp) (hb hby at_183) hr
  · exact ⟨rfl, N3, e3⟩
set_option maxRecDepth 65536 in
set_option maxHeartbeats 40000000 in
theorem r14 (l : Launch) (Z : State) (a0 : Array Value) (hw : ∀ d ∈ tables_1, d.before a0 Z = true) (ws : List Jvm.Cond) (h0 : Heap) (n0 : Nat) (s_IA5 : Addr) (s_BMP : Addr) (s_UTF8 : Addr) (K : Ctx Z h0 s_IA5 s_BMP s_UTF8) (p1 : Int32) (hc_lt_0 : ifCond.holds .lt p1 = true) :
    MetFree l (⟨"com/example/plainwire/plainwire/definitions/Repertoire", "holds", "(I)Z"⟩ : MethodName) (head1 (Jvm.Cond.code (⟨"com/example/plainwire/plainwire/definitions/Repertoire", "holds", "(I)Z"⟩ : MethodName) prog_37_method_5_code 2 (some .boolean) :: ws) ({ frames := 0, cells := 0, slots := 0, locals := 0 } : Room)) (fun a U => a = #[(.ref s_IA5), (.int p1)] ∧ Z.Warmed39 U.vm ∧ U.heap = h0) (fun _ _ _ _ _ => True) (fun _ U o U' => ∃ v L, o = .returned v ∧ QV (.int (0 : Int32)) h0 n0 v U'.heap L ∧ FrameEnd U o U' L ({ frames := 0, cells := 0, slots := 0, locals := 0 } : Room).cells ({ frames := 0, cells := 0, slots := 0, locals := 0 } : Room).slots) := by
  obtain ⟨S_IA5, E_IA5, F_IA5_lastCodePoint, S_BMP, E_BMP, F_BMP_lastCodePoint, S_UTF8, E_UTF8, F_UTF8_lastCodePoint⟩ := id K
  refine MetFree.of_bodySF (plainFor_of_name pn1) hisR ?_
  intro p e s m args below meth c s₁ Bd hml0 hP hK
  obtain ⟨rfl, hZ, hh⟩ := hP
  have hx := Bd.exec
  have hby := Bd.bytes
  have hml : c.maxLocals = 2 := hml0
  have hown : s.vm.findClass "com/example/plainwire/plainwire/definitions/Repertoire" = some m.cls := findClass_of_methodNamed Bd.named
  have X0 : Stand p l e ({ frames := 0, cells := 0, slots := 0, locals := 0 } : Room) s m #[(.ref s_IA5), (.int p1)] below meth c s₁ [] 0 0 := Stand.of_body Bd
  have e0 : s₁.heap = h0 := by rw [← hh, Bd.state]; rfl
  have N0 := Fr.nil n0
  have pre0 : ∀ t, Steps p.tables e below (s₁.setTop (mkF m 0 #[.val (.ref s_IA5), .val (.int p1)] [])) t → Steps p.tables e below (s₁.setTop (entryFrame m #[(.ref s_IA5), (.int p1)] 2)) t := fun t k => castTop (by first | (simp [entryFrame, mkF, argsToLocals, Value.category]; done) | rfl) k
  obtain ⟨fs, hr, hrun, hended, hW, hsame⟩ := X0.leave (v := some (.int (0 : Int32))) (fun h => by rw [Bd.returns] at h; cases h)
  refine ⟨_, _, pre0 _ ?_, hrun, hended, _, _, rfl, ?_, ⟨_, rfl⟩, hW, hsame.mono (by decide) (by decide)⟩
  · show Steps p.tables e below (s₁.setTop (mkF m 0 #[.val (.ref s_IA5), .val (.int p1)] [])) _
    refine XS.iloadN X0.here hx rfl (hb hby d1_0) rfl ?_
    show Steps p.tables e below (s₁.setTop (mkF m 1 #[.val (.ref s_IA5), .val (.int p1)] [(.int p1)])) _
    refine XS.ifYes X0.here hx rfl (pc0 := 1) (pc' := 28) rfl (hb hby d1_1) rfl hc_lt_0 (by decide) (by decide) ?_
    show Steps p.tables e below (s₁.setTop (mkF m 28 #[.val (.ref s_IA5), .val (.int p1)] [])) _
    refine XS.iconst X0.here hx rfl (hb hby d1_28) ?_
    show Steps p.tables e below (s₁.setTop (mkF m 29 #[.val (.ref s_IA5), .val (.int p1)] [(.int (0 : Int32))])) _
    exact retN X0 hx (t := .boolean) Bd.returns (by simp) (hb hby d1_29) hr
  · exact ⟨rfl, N0, e0⟩
set_option maxRecDepth 65536 in
set_option maxHeartbeats 40000000 in
theorem law_k0_8_0 (l : Launch) (Z : State) (a0 : Array Value) (hw : ∀ d ∈ tables_1, d.before a0 Z = true) (ws : List Jvm.Cond) (h0 : Heap) (n0 : Nat) (s_IA5 : Addr) (s_BMP : Addr) (s_UTF8 : Addr) (K : Ctx Z h0 s_IA5 s_BMP s_UTF8) (p0 : Int32) (p1 : Int32) (p2 : Int32) (ha : ((p0 &&& (2147483647 : Int32)) % (3 : Int32)) = (0 : Int32)) (hb1 : (p2 &&& (8 : Int32)) = (8 : Int32)) (hc_lt_0 : ifCond.holds .lt p1 = true) :
    MetFree l x (head1 (Jvm.Cond.code x code maxLocals ret :: ws) room_1) (fun a U => a = #[(.int p0), (.int p1), (.int p2)] ∧ Z.Warmed39 U.vm ∧ U.heap = h0) (fun _ _ _ _ _ => True) (fun _ U o U' => ∃ v L, o = .returned v ∧ QV (.int (1 : Int32)) h0 n0 v U'.heap L ∧ FrameEnd U o U' L room_1.cells room_1.slots) := by
  obtain ⟨S_IA5, E_IA5, F_IA5_lastCodePoint, S_BMP, E_BMP, F_BMP_lastCodePoint, S_UTF8, E_UTF8, F_UTF8_lastCodePoint⟩ := id K
  refine MetFree.of_bodySF (plainFor_of_name pn2) hisR ?_
  intro p e s m args below meth c s₁ Bd hml0 hP hK
  obtain ⟨rfl, hZ, hh⟩ := hP
  have hx := Bd.exec
  have hby := Bd.bytes
  have hml : c.maxLocals = 7 := hml0
  have hown : s.vm.findClass "com/example/plainwire/plainwire/definitions/RepertoireHoldsPinLaw" = some m.cls := findClass_of_methodNamed Bd.named
  have X0 : Stand p l e room_1 s m #[(.int p0), (.int p1), (.int p2)] below meth c s₁ [] 0 0 := Stand.of_body Bd
  have e0 : s₁.heap = h0 := by rw [← hh, Bd.state]; rfl
  have N0 := Fr.nil n0
  have pre0 : ∀ t, Steps p.tables e below (s₁.setTop (mkF m 0 #[.val (.int p0), .val (.int p1), .val (.int p2), .unset, .unset, .unset, .unset] [])) t → Steps p.tables e below (s₁.setTop (entryFrame m #[(.int p0), (.int p1), (.int p2)] maxLocals)) t := fun t k => castTop (by first | (simp [entryFrame, mkF, argsToLocals, Value.category, maxLocals]; done) | rfl) k
  obtain ⟨T1, X1, e1, st1⟩ := getS X0 hx hZ hown (host := "") (hw _ (List.mem_of_getElem? (i := 1) rfl)) Via.refl e0 S_IA5 (g := (mkF m 11 #[.val (.int p0), .val (.int p1), .val (.int p2), .val (.int (0 : Int32)), .unset, .unset, .unset] [])) rfl (hb hby at_11)
  obtain ⟨cq2, kq2, q2a, q2b, q2c⟩ := isOf hZ e1 E_IA5
  obtain ⟨_, _, ⟨T2, L2, k2, n2⟩, -, X2, ⟨Lc2, hQ2, l2, y2, z2⟩, st2⟩ := X1.virtualBack hx (y := (⟨"com/example/plainwire/plainwire/definitions/Repertoire", "holds", "(I)Z"⟩ : MethodName)) (z := (⟨"com/example/plainwire/plainwire/definitions/Repertoire", "holds", "(I)Z"⟩ : MethodName)) hown (mvT hZ (hw _ (List.mem_of_getElem? (i := 9) rfl))) (mvT hZ (hw _ (List.mem_of_getElem? (i := 10) rfl))) (notFace_of_selects (args := #[]) (mvT hZ (hw _ (List.mem_of_getElem? (i := 12) rfl)))) (mvT hZ (hw _ (List.mem_of_getElem? (i := 12) rfl))) (mvT hZ (hw _ (List.mem_of_getElem? (i := 11) rfl))) (by decide) (backOf (W := 0) (r14 l Z a0 hw [] h0 n0 s_IA5 s_BMP s_UTF8 K p1 hc_lt_0) hZ (hw _ (List.mem_of_getElem? (i := 13) rfl)) (hw _ (List.mem_of_getElem? (i := 2) rfl)) (by decide) (by decide)) q2a q2c (g := (mkF m 170 #[.val (.int p0), .val (.int p1), .val (.int p2), .val (.int (0 : Int32)), .val (.ref s_IA5), .val (.int p1), .val (.int (0 : Int32))] [(.int p1), (.ref s_IA5)])) rfl (by rw [hml]; rfl) (Steps.refl _) (argsL := [(.int p1)]) (rest := []) (lenOf pd1 rfl) rfl (by show 2 * 0 + _ ≤ _; exact Nat.le_of_eq rfl) (hb hby at_170) (fun _ _ => ⟨rfl, e1, (by decide : 0 + 0 ≤ _), (by decide : 0 + 0 ≤ _)⟩)
  dsimp only [Pt.U, Pt.locs, Pt.cells, Pt.slots] at X2 l2 y2 z2 st2 hQ2
  subst l2 y2 z2
  obtain ⟨rfl, N2q, e2⟩ := hQ2
  have N2 := Fr.app N0 N2q
  obtain ⟨fs, hr, hrun, hended, hW, hsame⟩ := X2.leave (v := some (.int (1 : Int32))) (fun h => by rw [Bd.returns] at h; cases h)
  refine ⟨_, _, pre0 _ ?_, hrun, hended, _, _, rfl, ?_, ⟨_, rfl⟩, hW, hsame.mono (by decide) (by decide)⟩
  · show Steps p.tables e below (s₁.setTop (mkF m 0 #[.val (.int p0), .val (.int p1), .val (.int p2), .unset, .unset, .unset, .unset] [])) _
    refine XS.iloadN X0.here hx rfl (hb hby at_0) rfl ?_
    show Steps p.tables e below (s₁.setTop (mkF m 1 #[.val (.int p0), .val (.int p1), .val (.int p2), .unset, .unset, .unset, .unset] [(.int p0)])) _
    refine X0.ldcInt hx hown (mvT hZ (hw _ (List.mem_of_getElem? (i := 0) rfl))) (g := (mkF m 1 #[.val (.int p0), .val (.int p1), .val (.int p2), .unset, .unset, .unset, .unset] [(.int p0)])) rfl (hb hby at_1) _ ?_
    show Steps p.tables e below (s₁.setTop (mkF m 3 #[.val (.int p0), .val (.int p1), .val (.int p2), .unset, .unset, .unset, .unset] [(.int (2147483647 : Int32)), (.int p0)])) _
    refine XS.iand X0.here hx rfl (hb hby at_3) rfl ?_
    show Steps p.tables e below (s₁.setTop (mkF m 4 #[.val (.int p0), .val (.int p1), .val (.int p2), .unset, .unset, .unset, .unset] [(.int (p0 &&& (2147483647 : Int32)))])) _
    refine XS.iconst X0.here hx rfl (hb hby at_4) ?_
    show Steps p.tables e below (s₁.setTop (mkF m 5 #[.val (.int p0), .val (.int p1), .val (.int p2), .unset, .unset, .unset, .unset] [(.int (3 : Int32)), (.int (p0 &&& (2147483647 : Int32)))])) _
    refine Jvm.RoadKit.iremM X0 hx rfl (hb hby at_5) rfl (by decide) ?_
    show Steps p.tables e below (s₁.setTop (mkF m 6 #[.val (.int p0), .val (.int p1), .val (.int p2), .unset, .unset, .unset, .unset] [(.int ((p0 &&& (2147483647 : Int32)) % (3 : Int32)))])) _
    rw [ha]
    show Steps p.tables e below (s₁.setTop (mkF m 6 #[.val (.int p0), .val (.int p1), .val (.int p2), .unset, .unset, .unset, .unset] [(.int (0 : Int32))])) _
    refine XS.istoreN X0.here hx rfl (hb hby at_6) rfl (l' := #[.val (.int p0), .val (.int p1), .val (.int p2), .val (.int (0 : Int32)), .unset, .unset, .unset]) rfl ?_
    show Steps p.tables e below (s₁.setTop (mkF m 7 #[.val (.int p0), .val (.int p1), .val (.int p2), .val (.int (0 : Int32)), .unset, .unset, .unset] [])) _
    refine XS.iloadN X0.here hx rfl (hb hby at_7) rfl ?_
    show Steps p.tables e below (s₁.setTop (mkF m 8 #[.val (.int p0), .val (.int p1), .val (.int p2), .val (.int (0 : Int32)), .unset, .unset, .unset] [(.int (0 : Int32))])) _
    refine XS.ifNo X0.here hx rfl (hb hby at_8) rfl (by decide +kernel) ?_
    show Steps p.tables e below (s₁.setTop (mkF m 11 #[.val (.int p0), .val (.int p1), .val (.int p2), .val (.int (0 : Int32)), .unset, .unset, .unset] [])) _
    refine st1 _ ?_
    show Steps p.tables e below (T1.setTop (mkF m 14 #[.val (.int p0), .val (.int p1), .val (.int p2), .val (.int (0 : Int32)), .unset, .unset, .unset] [(.ref s_IA5)])) _
    refine XS.astore X1.here hx rfl (hb hby at_14) rfl rfl (l' := #[.val (.int p0), .val (.int p1), .val (.int p2), .val (.int (0 : Int32)), .val (.ref s_IA5), .unset, .unset]) rfl ?_
    show Steps p.tables e below (T1.setTop (mkF m 16 #[.val (.int p0), .val (.int p1), .val (.int p2), .val (.int (0 : Int32)), .val (.ref s_IA5), .unset, .unset] [])) _
    refine XS.goto X1.here hx rfl (pc0 := 16) (pc' := 37) rfl (hb hby at_16) (by decide) (by decide) ?_
    show Steps p.tables e below (T1.setTop (mkF m 37 #[.val (.int p0), .val (.int p1), .val (.int p2), .val (.int (0 : Int32)), .val (.ref s_IA5), .unset, .unset] [])) _
    refine XS.iloadN X1.here hx rfl (hb hby at_37) rfl ?_
    show Steps p.tables e below (T1.setTop (mkF m 38 #[.val (.int p0), .val (.int p1), .val (.int p2), .val (.int (0 : Int32)), .val (.ref s_IA5), .unset, .unset] [(.int p2)])) _
    refine XS.bipush X1.here hx rfl (hb hby at_38) ?_
    show Steps p.tables e below (T1.setTop (mkF m 40 #[.val (.int p0), .val (.int p1), .val (.int p2), .val (.int (0 : Int32)), .val (.ref s_IA5), .unset, .unset] [(.int (8 : Int32)), (.int p2)])) _
    refine XS.iand X1.here hx rfl (hb hby at_40) rfl ?_
    show Steps p.tables e below (T1.setTop (mkF m 41 #[.val (.int p0), .val (.int p1), .val (.int p2), .val (.int (0 : Int32)), .val (.ref s_IA5), .unset, .unset] [(.int (p2 &&& (8 : Int32)))])) _
    rw [hb1]
    show Steps p.tables e below (T1.setTop (mkF m 41 #[.val (.int p0), .val (.int p1), .val (.int p2), .val (.int (0 : Int32)), .val (.ref s_IA5), .unset, .unset] [(.int (8 : Int32))])) _
    refine XS.ifNo X1.here hx rfl (hb hby at_41) rfl (by decide +kernel) ?_
    show Steps p.tables e below (T1.setTop (mkF m 44 #[.val (.int p0), .val (.int p1), .val (.int p2), .val (.int (0 : Int32)), .val (.ref s_IA5), .unset, .unset] [])) _
    refine XS.iloadN X1.here hx rfl (hb hby at_44) rfl ?_
    show Steps p.tables e below (T1.setTop (mkF m 45 #[.val (.int p0), .val (.int p1), .val (.int p2), .val (.int (0 : Int32)), .val (.ref s_IA5), .unset, .unset] [(.int p1)])) _
    refine XS.istore X1.here hx rfl (hb hby at_45) rfl (l' := #[.val (.int p0), .val (.int p1), .val (.int p2), .val (.int (0 : Int32)), .val (.ref s_IA5), .val (.int p1), .unset]) rfl ?_
    show Steps p.tables e below (T1.setTop (mkF m 47 #[.val (.int p0), .val (.int p1), .val (.int p2), .val (.int (0 : Int32)), .val (.ref s_IA5), .val (.int p1), .unset] [])) _
    refine XS.goto X1.here hx rfl (pc0 := 47) (pc' := 66) rfl (hb hby at_47) (by decide) (by decide) ?_
    show Steps p.tables e below (T1.setTop (mkF m 66 #[.val (.int p0), .val (.int p1), .val (.int p2), .val (.int (0 : Int32)), .val (.ref s_IA5), .val (.int p1), .unset] [])) _
    refine XS.iloadN X1.here hx rfl (hb hby at_66) rfl ?_
    show Steps p.tables e below (T1.setTop (mkF m 67 #[.val (.int p0), .val (.int p1), .val (.int p2), .val (.int (0 : Int32)), .val (.ref s_IA5), .val (.int p1), .unset] [(.int (0 : Int32))])) _
    refine XS.ifNo X1.here hx rfl (hb hby at_67) rfl (by decide +kernel) ?_
    show Steps p.tables e below (T1.setTop (mkF m 70 #[.val (.int p0), .val (.int p1), .val (.int p2), .val (.int (0 : Int32)), .val (.ref s_IA5), .val (.int p1), .unset] [])) _
    refine XS.iload X1.here hx rfl (hb hby at_70) rfl ?_
    show Steps p.tables e below (T1.setTop (mkF m 72 #[.val (.int p0), .val (.int p1), .val (.int p2), .val (.int (0 : Int32)), .val (.ref s_IA5), .val (.int p1), .unset] [(.int p1)])) _
    refine XS.ifYes X1.here hx rfl (pc0 := 72) (pc' := 86) rfl (hb hby at_72) rfl hc_lt_0 (by decide) (by decide) ?_
    show Steps p.tables e below (T1.setTop (mkF m 86 #[.val (.int p0), .val (.int p1), .val (.int p2), .val (.int (0 : Int32)), .val (.ref s_IA5), .val (.int p1), .unset] [])) _
    refine XS.iconst X1.here hx rfl (hb hby at_86) ?_
    show Steps p.tables e below (T1.setTop (mkF m 87 #[.val (.int p0), .val (.int p1), .val (.int p2), .val (.int (0 : Int32)), .val (.ref s_IA5), .val (.int p1), .unset] [(.int (0 : Int32))])) _
    refine XS.istore X1.here hx rfl (hb hby at_87) rfl (l' := #[.val (.int p0), .val (.int p1), .val (.int p2), .val (.int (0 : Int32)), .val (.ref s_IA5), .val (.int p1), .val (.int (0 : Int32))]) rfl ?_
    show Steps p.tables e below (T1.setTop (mkF m 89 #[.val (.int p0), .val (.int p1), .val (.int p2), .val (.int (0 : Int32)), .val (.ref s_IA5), .val (.int p1), .val (.int (0 : Int32))] [])) _
    refine XS.goto X1.here hx rfl (pc0 := 89) (pc' := 166) rfl (hb hby at_89) (by decide) (by decide) ?_
    show Steps p.tables e below (T1.setTop (mkF m 166 #[.val (.int p0), .val (.int p1), .val (.int p2), .val (.int (0 : Int32)), .val (.ref s_IA5), .val (.int p1), .val (.int (0 : Int32))] [])) _
    refine XS.aload X1.here hx rfl (hb hby at_166) rfl rfl ?_
    show Steps p.tables e below (T1.setTop (mkF m 168 #[.val (.int p0), .val (.int p1), .val (.int p2), .val (.int (0 : Int32)), .val (.ref s_IA5), .val (.int p1), .val (.int (0 : Int32))] [(.ref s_IA5)])) _
    refine XS.iload X1.here hx rfl (hb hby at_168) rfl ?_
    show Steps p.tables e below (T1.setTop (mkF m 170 #[.val (.int p0), .val (.int p1), .val (.int p2), .val (.int (0 : Int32)), .val (.ref s_IA5), .val (.int p1), .val (.int (0 : Int32))] [(.int p1), (.ref s_IA5)])) _
    refine st2.trans ?_
    show Steps p.tables e below (T2.setTop (mkF m 173 #[.val (.int p0), .val (.int p1), .val (.int p2), .val (.int (0 : Int32)), .val (.ref s_IA5), .val (.int p1), .val (.int (0 : Int32))] [(.int (0 : Int32))])) _
    refine XS.iload X2.here hx rfl (hb hby at_173) rfl ?_
    show Steps p.tables e below (T2.setTop (mkF m 175 #[.val (.int p0), .val (.int p1), .val (.int p2), .val (.int (0 : Int32)), .val (.ref s_IA5), .val (.int p1), .val (.int (0 : Int32))] [(.int (0 : Int32)), (.int (0 : Int32))])) _
    refine XS.icmpNo X2.here hx rfl (hb hby at_175) rfl (by decide +kernel) ?_
    show Steps p.tables e below (T2.setTop (mkF m 178 #[.val (.int p0), .val (.int p1), .val (.int p2), .val (.int (0 : Int32)), .val (.ref s_IA5), .val (.int p1), .val (.int (0 : Int32))] [])) _
    refine XS.iconst X2.here hx rfl (hb hby at_178) ?_
    show Steps p.tables e below (T2.setTop (mkF m 179 #[.val (.int p0), .val (.int p1), .val (.int p2), .val (.int (0 : Int32)), .val (.ref s_IA5), .val (.int p1), .val (.int (0 : Int32))] [(.int (1 : Int32))])) _
    refine XS.goto X2.here hx rfl (pc0 := 179) (pc' := 183) rfl (hb hby at_179) (by decide) (by decide) ?_
    show Steps p.tables e below (T2.setTop (mkF m 183 #[.val (.int p0), .val (.int p1), .val (.int p2), .val (.int (0 : Int32)), .val (.ref s_IA5), .val (.int p1), .val (.int (0 : Int32))] [(.int (1 : Int32))])) _
    exact retN X2 hx (t := .boolean) Bd.returns (by simp) (hb hby at_183) hr
  · exact ⟨rfl, N2, e2⟩
set_option maxRecDepth 65536 in
set_option maxHeartbeats 40000000 in
theorem r16 (l : Launch) (Z : State) (a0 : Array Value) (hw : ∀ d ∈ tables_1, d.before a0 Z = true) (ws : List Jvm.Cond) (h0 : Heap) (n0 : Nat) (s_IA5 : Addr) (s_BMP : Addr) (s_UTF8 : Addr) (K : Ctx Z h0 s_IA5 s_BMP s_UTF8) (p1 : Int32) (hc_lt_0 : ifCond.holds .lt p1 = false) (hc_gt_127 : if_icmp.holds .gt p1 (127 : Int32) = false) (hc_lt_55296 : if_icmp.holds .lt p1 (55296 : Int32) = true) :
    MetFree l (⟨"com/example/plainwire/plainwire/definitions/Repertoire", "holds", "(I)Z"⟩ : MethodName) (head1 (Jvm.Cond.code (⟨"com/example/plainwire/plainwire/definitions/Repertoire", "holds", "(I)Z"⟩ : MethodName) prog_37_method_5_code 2 (some .boolean) :: ws) ({ frames := 0, cells := 0, slots := 0, locals := 0 } : Room)) (fun a U => a = #[(.ref s_IA5), (.int p1)] ∧ Z.Warmed39 U.vm ∧ U.heap = h0) (fun _ _ _ _ _ => True) (fun _ U o U' => ∃ v L, o = .returned v ∧ QV (.int (1 : Int32)) h0 n0 v U'.heap L ∧ FrameEnd U o U' L ({ frames := 0, cells := 0, slots := 0, locals := 0 } : Room).cells ({ frames := 0, cells := 0, slots := 0, locals := 0 } : Room).slots) := by
  obtain ⟨S_IA5, E_IA5, F_IA5_lastCodePoint, S_BMP, E_BMP, F_BMP_lastCodePoint, S_UTF8, E_UTF8, F_UTF8_lastCodePoint⟩ := id K
  refine MetFree.of_bodySF (plainFor_of_name pn1) hisR ?_
  intro p e s m args below meth c s₁ Bd hml0 hP hK
  obtain ⟨rfl, hZ, hh⟩ := hP
  have hx := Bd.exec
  have hby := Bd.bytes
  have hml : c.maxLocals = 2 := hml0
  have hown : s.vm.findClass "com/example/plainwire/plainwire/definitions/Repertoire" = some m.cls := findClass_of_methodNamed Bd.named
  have X0 : Stand p l e ({ frames := 0, cells := 0, slots := 0, locals := 0 } : Room) s m #[(.ref s_IA5), (.int p1)] below meth c s₁ [] 0 0 := Stand.of_body Bd
  have e0 : s₁.heap = h0 := by rw [← hh, Bd.state]; rfl
  have N0 := Fr.nil n0
  have pre0 : ∀ t, Steps p.tables e below (s₁.setTop (mkF m 0 #[.val (.ref s_IA5), .val (.int p1)] [])) t → Steps p.tables e below (s₁.setTop (entryFrame m #[(.ref s_IA5), (.int p1)] 2)) t := fun t k => castTop (by first | (simp [entryFrame, mkF, argsToLocals, Value.category]; done) | rfl) k
  obtain ⟨T1, X1, e1, st1⟩ := getF X0 hx hZ hown (host := "") (Or.inl (hw _ (List.mem_of_getElem? (i := 14) rfl))) Via.refl e0 F_IA5_lastCodePoint (g := (mkF m 6 #[.val (.ref s_IA5), .val (.int p1)] [(.ref s_IA5), (.int p1)])) rfl rfl (hb hby d1_6)
  obtain ⟨fs, hr, hrun, hended, hW, hsame⟩ := X1.leave (v := some (.int (1 : Int32))) (fun h => by rw [Bd.returns] at h; cases h)
  refine ⟨_, _, pre0 _ ?_, hrun, hended, _, _, rfl, ?_, ⟨_, rfl⟩, hW, hsame.mono (by decide) (by decide)⟩
  · show Steps p.tables e below (s₁.setTop (mkF m 0 #[.val (.ref s_IA5), .val (.int p1)] [])) _
    refine XS.iloadN X0.here hx rfl (hb hby d1_0) rfl ?_
    show Steps p.tables e below (s₁.setTop (mkF m 1 #[.val (.ref s_IA5), .val (.int p1)] [(.int p1)])) _
    refine XS.ifNo X0.here hx rfl (hb hby d1_1) rfl hc_lt_0 ?_
    show Steps p.tables e below (s₁.setTop (mkF m 4 #[.val (.ref s_IA5), .val (.int p1)] [])) _
    refine XS.iloadN X0.here hx rfl (hb hby d1_4) rfl ?_
    show Steps p.tables e below (s₁.setTop (mkF m 5 #[.val (.ref s_IA5), .val (.int p1)] [(.int p1)])) _
    refine XS.aloadN X0.here hx rfl (hb hby d1_5) rfl rfl ?_
    show Steps p.tables e below (s₁.setTop (mkF m 6 #[.val (.ref s_IA5), .val (.int p1)] [(.ref s_IA5), (.int p1)])) _
    refine st1 _ ?_
    show Steps p.tables e below (T1.setTop (mkF m 9 #[.val (.ref s_IA5), .val (.int p1)] [(.int (127 : Int32)), (.int p1)])) _
    refine XS.icmpNo X1.here hx rfl (hb hby d1_9) rfl hc_gt_127 ?_
    show Steps p.tables e below (T1.setTop (mkF m 12 #[.val (.ref s_IA5), .val (.int p1)] [])) _
    refine XS.iloadN X1.here hx rfl (hb hby d1_12) rfl ?_
    show Steps p.tables e below (T1.setTop (mkF m 13 #[.val (.ref s_IA5), .val (.int p1)] [(.int p1)])) _
    refine X1.ldcInt hx hown (mvT hZ (hw _ (List.mem_of_getElem? (i := 21) rfl))) (g := (mkF m 13 #[.val (.ref s_IA5), .val (.int p1)] [(.int p1)])) rfl (hb hby d1_13) _ ?_
    show Steps p.tables e below (T1.setTop (mkF m 15 #[.val (.ref s_IA5), .val (.int p1)] [(.int (55296 : Int32)), (.int p1)])) _
    refine XS.icmpYes X1.here hx rfl (pc0 := 15) (pc' := 24) rfl (hb hby d1_15) rfl hc_lt_55296 (by decide) (by decide) ?_
    show Steps p.tables e below (T1.setTop (mkF m 24 #[.val (.ref s_IA5), .val (.int p1)] [])) _
    refine XS.iconst X1.here hx rfl (hb hby d1_24) ?_
    show Steps p.tables e below (T1.setTop (mkF m 25 #[.val (.ref s_IA5), .val (.int p1)] [(.int (1 : Int32))])) _
    refine XS.goto X1.here hx rfl (pc0 := 25) (pc' := 29) rfl (hb hby d1_25) (by decide) (by decide) ?_
    show Steps p.tables e below (T1.setTop (mkF m 29 #[.val (.ref s_IA5), .val (.int p1)] [(.int (1 : Int32))])) _
    exact retN X1 hx (t := .boolean) Bd.returns (by simp) (hb hby d1_29) hr
  · exact ⟨rfl, N0, e1⟩
set_option maxRecDepth 65536 in
set_option maxHeartbeats 40000000 in
theorem law_k0_8_1 (l : Launch) (Z : State) (a0 : Array Value) (hw : ∀ d ∈ tables_1, d.before a0 Z = true) (ws : List Jvm.Cond) (h0 : Heap) (n0 : Nat) (s_IA5 : Addr) (s_BMP : Addr) (s_UTF8 : Addr) (K : Ctx Z h0 s_IA5 s_BMP s_UTF8) (p0 : Int32) (p1 : Int32) (p2 : Int32) (ha : ((p0 &&& (2147483647 : Int32)) % (3 : Int32)) = (0 : Int32)) (hb1 : (p2 &&& (8 : Int32)) = (8 : Int32)) (hc_lt_0 : ifCond.holds .lt p1 = false) (hc_gt_127 : if_icmp.holds .gt p1 (127 : Int32) = false) (hc_lt_55296 : if_icmp.holds .lt p1 (55296 : Int32) = true) :
    MetFree l x (head1 (Jvm.Cond.code x code maxLocals ret :: ws) room_1) (fun a U => a = #[(.int p0), (.int p1), (.int p2)] ∧ Z.Warmed39 U.vm ∧ U.heap = h0) (fun _ _ _ _ _ => True) (fun _ U o U' => ∃ v L, o = .returned v ∧ QV (.int (1 : Int32)) h0 n0 v U'.heap L ∧ FrameEnd U o U' L room_1.cells room_1.slots) := by
  obtain ⟨S_IA5, E_IA5, F_IA5_lastCodePoint, S_BMP, E_BMP, F_BMP_lastCodePoint, S_UTF8, E_UTF8, F_UTF8_lastCodePoint⟩ := id K
  refine MetFree.of_bodySF (plainFor_of_name pn2) hisR ?_
  intro p e s m args below meth c s₁ Bd hml0 hP hK
  obtain ⟨rfl, hZ, hh⟩ := hP
  have hx := Bd.exec
  have hby := Bd.bytes
  have hml : c.maxLocals = 7 := hml0
  have hown : s.vm.findClass "com/example/plainwire/plainwire/definitions/RepertoireHoldsPinLaw" = some m.cls := findClass_of_methodNamed Bd.named
  have X0 : Stand p l e room_1 s m #[(.int p0), (.int p1), (.int p2)] below meth c s₁ [] 0 0 := Stand.of_body Bd
  have e0 : s₁.heap = h0 := by rw [← hh, Bd.state]; rfl
  have N0 := Fr.nil n0
  have pre0 : ∀ t, Steps p.tables e below (s₁.setTop (mkF m 0 #[.val (.int p0), .val (.int p1), .val (.int p2), .unset, .unset, .unset, .unset] [])) t → Steps p.tables e below (s₁.setTop (entryFrame m #[(.int p0), (.int p1), (.int p2)] maxLocals)) t := fun t k => castTop (by first | (simp [entryFrame, mkF, argsToLocals, Value.category, maxLocals]; done) | rfl) k
  obtain ⟨T1, X1, e1, st1⟩ := getS X0 hx hZ hown (host := "") (hw _ (List.mem_of_getElem? (i := 1) rfl)) Via.refl e0 S_IA5 (g := (mkF m 11 #[.val (.int p0), .val (.int p1), .val (.int p2), .val (.int (0 : Int32)), .unset, .unset, .unset] [])) rfl (hb hby at_11)
  obtain ⟨cq2, kq2, q2a, q2b, q2c⟩ := isOf hZ e1 E_IA5
  obtain ⟨_, _, ⟨T2, L2, k2, n2⟩, -, X2, ⟨Lc2, hQ2, l2, y2, z2⟩, st2⟩ := X1.virtualBack hx (y := (⟨"com/example/plainwire/plainwire/definitions/Repertoire", "holds", "(I)Z"⟩ : MethodName)) (z := (⟨"com/example/plainwire/plainwire/definitions/Repertoire", "holds", "(I)Z"⟩ : MethodName)) hown (mvT hZ (hw _ (List.mem_of_getElem? (i := 9) rfl))) (mvT hZ (hw _ (List.mem_of_getElem? (i := 10) rfl))) (notFace_of_selects (args := #[]) (mvT hZ (hw _ (List.mem_of_getElem? (i := 12) rfl)))) (mvT hZ (hw _ (List.mem_of_getElem? (i := 12) rfl))) (mvT hZ (hw _ (List.mem_of_getElem? (i := 11) rfl))) (by decide) (backOf (W := 0) (r16 l Z a0 hw [] h0 n0 s_IA5 s_BMP s_UTF8 K p1 hc_lt_0 hc_gt_127 hc_lt_55296) hZ (hw _ (List.mem_of_getElem? (i := 13) rfl)) (hw _ (List.mem_of_getElem? (i := 2) rfl)) (by decide) (by decide)) q2a q2c (g := (mkF m 170 #[.val (.int p0), .val (.int p1), .val (.int p2), .val (.int (0 : Int32)), .val (.ref s_IA5), .val (.int p1), .val (.int (1 : Int32))] [(.int p1), (.ref s_IA5)])) rfl (by rw [hml]; rfl) (Steps.refl _) (argsL := [(.int p1)]) (rest := []) (lenOf pd1 rfl) rfl (by show 2 * 0 + _ ≤ _; exact Nat.le_of_eq rfl) (hb hby at_170) (fun _ _ => ⟨rfl, e1, (by decide : 0 + 0 ≤ _), (by decide : 0 + 0 ≤ _)⟩)
  dsimp only [Pt.U, Pt.locs, Pt.cells, Pt.slots] at X2 l2 y2 z2 st2 hQ2
  subst l2 y2 z2
  obtain ⟨rfl, N2q, e2⟩ := hQ2
  have N2 := Fr.app N0 N2q
  obtain ⟨fs, hr, hrun, hended, hW, hsame⟩ := X2.leave (v := some (.int (1 : Int32))) (fun h => by rw [Bd.returns] at h; cases h)
  refine ⟨_, _, pre0 _ ?_, hrun, hended, _, _, rfl, ?_, ⟨_, rfl⟩, hW, hsame.mono (by decide) (by decide)⟩
  · show Steps p.tables e below (s₁.setTop (mkF m 0 #[.val (.int p0), .val (.int p1), .val (.int p2), .unset, .unset, .unset, .unset] [])) _
    refine XS.iloadN X0.here hx rfl (hb hby at_0) rfl ?_
    show Steps p.tables e below (s₁.setTop (mkF m 1 #[.val (.int p0), .val (.int p1), .val (.int p2), .unset, .unset, .unset, .unset] [(.int p0)])) _
    refine X0.ldcInt hx hown (mvT hZ (hw _ (List.mem_of_getElem? (i := 0) rfl))) (g := (mkF m 1 #[.val (.int p0), .val (.int p1), .val (.int p2), .unset, .unset, .unset, .unset] [(.int p0)])) rfl (hb hby at_1) _ ?_
    show Steps p.tables e below (s₁.setTop (mkF m 3 #[.val (.int p0), .val (.int p1), .val (.int p2), .unset, .unset, .unset, .unset] [(.int (2147483647 : Int32)), (.int p0)])) _
    refine XS.iand X0.here hx rfl (hb hby at_3) rfl ?_
    show Steps p.tables e below (s₁.setTop (mkF m 4 #[.val (.int p0), .val (.int p1), .val (.int p2), .unset, .unset, .unset, .unset] [(.int (p0 &&& (2147483647 : Int32)))])) _
    refine XS.iconst X0.here hx rfl (hb hby at_4) ?_
    show Steps p.tables e below (s₁.setTop (mkF m 5 #[.val (.int p0), .val (.int p1), .val (.int p2), .unset, .unset, .unset, .unset] [(.int (3 : Int32)), (.int (p0 &&& (2147483647 : Int32)))])) _
    refine Jvm.RoadKit.iremM X0 hx rfl (hb hby at_5) rfl (by decide) ?_
    show Steps p.tables e below (s₁.setTop (mkF m 6 #[.val (.int p0), .val (.int p1), .val (.int p2), .unset, .unset, .unset, .unset] [(.int ((p0 &&& (2147483647 : Int32)) % (3 : Int32)))])) _
    rw [ha]
    show Steps p.tables e below (s₁.setTop (mkF m 6 #[.val (.int p0), .val (.int p1), .val (.int p2), .unset, .unset, .unset, .unset] [(.int (0 : Int32))])) _
    refine XS.istoreN X0.here hx rfl (hb hby at_6) rfl (l' := #[.val (.int p0), .val (.int p1), .val (.int p2), .val (.int (0 : Int32)), .unset, .unset, .unset]) rfl ?_
    show Steps p.tables e below (s₁.setTop (mkF m 7 #[.val (.int p0), .val (.int p1), .val (.int p2), .val (.int (0 : Int32)), .unset, .unset, .unset] [])) _
    refine XS.iloadN X0.here hx rfl (hb hby at_7) rfl ?_
    show Steps p.tables e below (s₁.setTop (mkF m 8 #[.val (.int p0), .val (.int p1), .val (.int p2), .val (.int (0 : Int32)), .unset, .unset, .unset] [(.int (0 : Int32))])) _
    refine XS.ifNo X0.here hx rfl (hb hby at_8) rfl (by decide +kernel) ?_
    show Steps p.tables e below (s₁.setTop (mkF m 11 #[.val (.int p0), .val (.int p1), .val (.int p2), .val (.int (0 : Int32)), .unset, .unset, .unset] [])) _
    refine st1 _ ?_
    show Steps p.tables e below (T1.setTop (mkF m 14 #[.val (.int p0), .val (.int p1), .val (.int p2), .val (.int (0 : Int32)), .unset, .unset, .unset] [(.ref s_IA5)])) _
    refine XS.astore X1.here hx rfl (hb hby at_14) rfl rfl (l' := #[.val (.int p0), .val (.int p1), .val (.int p2), .val (.int (0 : Int32)), .val (.ref s_IA5), .unset, .unset]) rfl ?_
    show Steps p.tables e below (T1.setTop (mkF m 16 #[.val (.int p0), .val (.int p1), .val (.int p2), .val (.int (0 : Int32)), .val (.ref s_IA5), .unset, .unset] [])) _
    refine XS.goto X1.here hx rfl (pc0 := 16) (pc' := 37) rfl (hb hby at_16) (by decide) (by decide) ?_
    show Steps p.tables e below (T1.setTop (mkF m 37 #[.val (.int p0), .val (.int p1), .val (.int p2), .val (.int (0 : Int32)), .val (.ref s_IA5), .unset, .unset] [])) _
    refine XS.iloadN X1.here hx rfl (hb hby at_37) rfl ?_
    show Steps p.tables e below (T1.setTop (mkF m 38 #[.val (.int p0), .val (.int p1), .val (.int p2), .val (.int (0 : Int32)), .val (.ref s_IA5), .unset, .unset] [(.int p2)])) _
    refine XS.bipush X1.here hx rfl (hb hby at_38) ?_
    show Steps p.tables e below (T1.setTop (mkF m 40 #[.val (.int p0), .val (.int p1), .val (.int p2), .val (.int (0 : Int32)), .val (.ref s_IA5), .unset, .unset] [(.int (8 : Int32)), (.int p2)])) _
    refine XS.iand X1.here hx rfl (hb hby at_40) rfl ?_
    show Steps p.tables e below (T1.setTop (mkF m 41 #[.val (.int p0), .val (.int p1), .val (.int p2), .val (.int (0 : Int32)), .val (.ref s_IA5), .unset, .unset] [(.int (p2 &&& (8 : Int32)))])) _
    rw [hb1]
    show Steps p.tables e below (T1.setTop (mkF m 41 #[.val (.int p0), .val (.int p1), .val (.int p2), .val (.int (0 : Int32)), .val (.ref s_IA5), .unset, .unset] [(.int (8 : Int32))])) _
    refine XS.ifNo X1.here hx rfl (hb hby at_41) rfl (by decide +kernel) ?_
    show Steps p.tables e below (T1.setTop (mkF m 44 #[.val (.int p0), .val (.int p1), .val (.int p2), .val (.int (0 : Int32)), .val (.ref s_IA5), .unset, .unset] [])) _
    refine XS.iloadN X1.here hx rfl (hb hby at_44) rfl ?_
    show Steps p.tables e below (T1.setTop (mkF m 45 #[.val (.int p0), .val (.int p1), .val (.int p2), .val (.int (0 : Int32)), .val (.ref s_IA5), .unset, .unset] [(.int p1)])) _
    refine XS.istore X1.here hx rfl (hb hby at_45) rfl (l' := #[.val (.int p0), .val (.int p1), .val (.int p2), .val (.int (0 : Int32)), .val (.ref s_IA5), .val (.int p1), .unset]) rfl ?_
    show Steps p.tables e below (T1.setTop (mkF m 47 #[.val (.int p0), .val (.int p1), .val (.int p2), .val (.int (0 : Int32)), .val (.ref s_IA5), .val (.int p1), .unset] [])) _
    refine XS.goto X1.here hx rfl (pc0 := 47) (pc' := 66) rfl (hb hby at_47) (by decide) (by decide) ?_
    show Steps p.tables e below (T1.setTop (mkF m 66 #[.val (.int p0), .val (.int p1), .val (.int p2), .val (.int (0 : Int32)), .val (.ref s_IA5), .val (.int p1), .unset] [])) _
    refine XS.iloadN X1.here hx rfl (hb hby at_66) rfl ?_
    show Steps p.tables e below (T1.setTop (mkF m 67 #[.val (.int p0), .val (.int p1), .val (.int p2), .val (.int (0 : Int32)), .val (.ref s_IA5), .val (.int p1), .unset] [(.int (0 : Int32))])) _
    refine XS.ifNo X1.here hx rfl (hb hby at_67) rfl (by decide +kernel) ?_
    show Steps p.tables e below (T1.setTop (mkF m 70 #[.val (.int p0), .val (.int p1), .val (.int p2), .val (.int (0 : Int32)), .val (.ref s_IA5), .val (.int p1), .unset] [])) _
    refine XS.iload X1.here hx rfl (hb hby at_70) rfl ?_
    show Steps p.tables e below (T1.setTop (mkF m 72 #[.val (.int p0), .val (.int p1), .val (.int p2), .val (.int (0 : Int32)), .val (.ref s_IA5), .val (.int p1), .unset] [(.int p1)])) _
    refine XS.ifNo X1.here hx rfl (hb hby at_72) rfl hc_lt_0 ?_
    show Steps p.tables e below (T1.setTop (mkF m 75 #[.val (.int p0), .val (.int p1), .val (.int p2), .val (.int (0 : Int32)), .val (.ref s_IA5), .val (.int p1), .unset] [])) _
    refine XS.iload X1.here hx rfl (hb hby at_75) rfl ?_
    show Steps p.tables e below (T1.setTop (mkF m 77 #[.val (.int p0), .val (.int p1), .val (.int p2), .val (.int (0 : Int32)), .val (.ref s_IA5), .val (.int p1), .unset] [(.int p1)])) _
    refine XS.bipush X1.here hx rfl (hb hby at_77) ?_
    show Steps p.tables e below (T1.setTop (mkF m 79 #[.val (.int p0), .val (.int p1), .val (.int p2), .val (.int (0 : Int32)), .val (.ref s_IA5), .val (.int p1), .unset] [(.int (127 : Int32)), (.int p1)])) _
    refine XS.icmpNo X1.here hx rfl (hb hby at_79) rfl hc_gt_127 ?_
    show Steps p.tables e below (T1.setTop (mkF m 82 #[.val (.int p0), .val (.int p1), .val (.int p2), .val (.int (0 : Int32)), .val (.ref s_IA5), .val (.int p1), .unset] [])) _
    refine XS.iconst X1.here hx rfl (hb hby at_82) ?_
    show Steps p.tables e below (T1.setTop (mkF m 83 #[.val (.int p0), .val (.int p1), .val (.int p2), .val (.int (0 : Int32)), .val (.ref s_IA5), .val (.int p1), .unset] [(.int (1 : Int32))])) _
    refine XS.goto X1.here hx rfl (pc0 := 83) (pc' := 87) rfl (hb hby at_83) (by decide) (by decide) ?_
    show Steps p.tables e below (T1.setTop (mkF m 87 #[.val (.int p0), .val (.int p1), .val (.int p2), .val (.int (0 : Int32)), .val (.ref s_IA5), .val (.int p1), .unset] [(.int (1 : Int32))])) _
    refine XS.istore X1.here hx rfl (hb hby at_87) rfl (l' := #[.val (.int p0), .val (.int p1), .val (.int p2), .val (.int (0 : Int32)), .val (.ref s_IA5), .val (.int p1), .val (.int (1 : Int32))]) rfl ?_
    show Steps p.tables e below (T1.setTop (mkF m 89 #[.val (.int p0), .val (.int p1), .val (.int p2), .val (.int (0 : Int32)), .val (.ref s_IA5), .val (.int p1), .val (.int (1 : Int32))] [])) _
    refine XS.goto X1.here hx rfl (pc0 := 89) (pc' := 166) rfl (hb hby at_89) (by decide) (by decide) ?_
    show Steps p.tables e below (T1.setTop (mkF m 166 #[.val (.int p0), .val (.int p1), .val (.int p2), .val (.int (0 : Int32)), .val (.ref s_IA5), .val (.int p1), .val (.int (1 : Int32))] [])) _
    refine XS.aload X1.here hx rfl (hb hby at_166) rfl rfl ?_
    show Steps p.tables e below (T1.setTop (mkF m 168 #[.val (.int p0), .val (.int p1), .val (.int p2), .val (.int (0 : Int32)), .val (.ref s_IA5), .val (.int p1), .val (.int (1 : Int32))] [(.ref s_IA5)])) _
    refine XS.iload X1.here hx rfl (hb hby at_168) rfl ?_
    show Steps p.tables e below (T1.setTop (mkF m 170 #[.val (.int p0), .val (.int p1), .val (.int p2), .val (.int (0 : Int32)), .val (.ref s_IA5), .val (.int p1), .val (.int (1 : Int32))] [(.int p1), (.ref s_IA5)])) _
    refine st2.trans ?_
    show Steps p.tables e below (T2.setTop (mkF m 173 #[.val (.int p0), .val (.int p1), .val (.int p2), .val (.int (0 : Int32)), .val (.ref s_IA5), .val (.int p1), .val (.int (1 : Int32))] [(.int (1 : Int32))])) _
    refine XS.iload X2.here hx rfl (hb hby at_173) rfl ?_
    show Steps p.tables e below (T2.setTop (mkF m 175 #[.val (.int p0), .val (.int p1), .val (.int p2), .val (.int (0 : Int32)), .val (.ref s_IA5), .val (.int p1), .val (.int (1 : Int32))] [(.int (1 : Int32)), (.int (1 : Int32))])) _
    refine XS.icmpNo X2.here hx rfl (hb hby at_175) rfl (by decide +kernel) ?_
    show Steps p.tables e below (T2.setTop (mkF m 178 #[.val (.int p0), .val (.int p1), .val (.int p2), .val (.int (0 : Int32)), .val (.ref s_IA5), .val (.int p1), .val (.int (1 : Int32))] [])) _
    refine XS.iconst X2.here hx rfl (hb hby at_178) ?_
    show Steps p.tables e below (T2.setTop (mkF m 179 #[.val (.int p0), .val (.int p1), .val (.int p2), .val (.int (0 : Int32)), .val (.ref s_IA5), .val (.int p1), .val (.int (1 : Int32))] [(.int (1 : Int32))])) _
    refine XS.goto X2.here hx rfl (pc0 := 179) (pc' := 183) rfl (hb hby at_179) (by decide) (by decide) ?_
    show Steps p.tables e below (T2.setTop (mkF m 183 #[.val (.int p0), .val (.int p1), .val (.int p2), .val (.int (0 : Int32)), .val (.ref s_IA5), .val (.int p1), .val (.int (1 : Int32))] [(.int (1 : Int32))])) _
    exact retN X2 hx (t := .boolean) Bd.returns (by simp) (hb hby at_183) hr
  · exact ⟨rfl, N2, e2⟩
set_option maxRecDepth 65536 in
set_option maxHeartbeats 40000000 in
theorem r18 (l : Launch) (Z : State) (a0 : Array Value) (hw : ∀ d ∈ tables_1, d.before a0 Z = true) (ws : List Jvm.Cond) (h0 : Heap) (n0 : Nat) (s_IA5 : Addr) (s_BMP : Addr) (s_UTF8 : Addr) (K : Ctx Z h0 s_IA5 s_BMP s_UTF8) (p1 : Int32) (hc_lt_0 : ifCond.holds .lt p1 = false) (hc_gt_127 : if_icmp.holds .gt p1 (127 : Int32) = true) :
    MetFree l (⟨"com/example/plainwire/plainwire/definitions/Repertoire", "holds", "(I)Z"⟩ : MethodName) (head1 (Jvm.Cond.code (⟨"com/example/plainwire/plainwire/definitions/Repertoire", "holds", "(I)Z"⟩ : MethodName) prog_37_method_5_code 2 (some .boolean) :: ws) ({ frames := 0, cells := 0, slots := 0, locals := 0 } : Room)) (fun a U => a = #[(.ref s_IA5), (.int p1)] ∧ Z.Warmed39 U.vm ∧ U.heap = h0) (fun _ _ _ _ _ => True) (fun _ U o U' => ∃ v L, o = .returned v ∧ QV (.int (0 : Int32)) h0 n0 v U'.heap L ∧ FrameEnd U o U' L ({ frames := 0, cells := 0, slots := 0, locals := 0 } : Room).cells ({ frames := 0, cells := 0, slots := 0, locals := 0 } : Room).slots) := by
  obtain ⟨S_IA5, E_IA5, F_IA5_lastCodePoint, S_BMP, E_BMP, F_BMP_lastCodePoint, S_UTF8, E_UTF8, F_UTF8_lastCodePoint⟩ := id K
  refine MetFree.of_bodySF (plainFor_of_name pn1) hisR ?_
  intro p e s m args below meth c s₁ Bd hml0 hP hK
  obtain ⟨rfl, hZ, hh⟩ := hP
  have hx := Bd.exec
  have hby := Bd.bytes
  have hml : c.maxLocals = 2 := hml0
  have hown : s.vm.findClass "com/example/plainwire/plainwire/definitions/Repertoire" = some m.cls := findClass_of_methodNamed Bd.named
  have X0 : Stand p l e ({ frames := 0, cells := 0, slots := 0, locals := 0 } : Room) s m #[(.ref s_IA5), (.int p1)] below meth c s₁ [] 0 0 := Stand.of_body Bd
  have e0 : s₁.heap = h0 := by rw [← hh, Bd.state]; rfl
  have N0 := Fr.nil n0
  have pre0 : ∀ t, Steps p.tables e below (s₁.setTop (mkF m 0 #[.val (.ref s_IA5), .val (.int p1)] [])) t → Steps p.tables e below (s₁.setTop (entryFrame m #[(.ref s_IA5), (.int p1)] 2)) t := fun t k => castTop (by first | (simp [entryFrame, mkF, argsToLocals, Value.category]; done) | rfl) k
  obtain ⟨T1, X1, e1, st1⟩ := getF X0 hx hZ hown (host := "") (Or.inl (hw _ (List.mem_of_getElem? (i := 14) rfl))) Via.refl e0 F_IA5_lastCodePoint (g := (mkF m 6 #[.val (.ref s_IA5), .val (.int p1)] [(.ref s_IA5), (.int p1)])) rfl rfl (hb hby d1_6)
  obtain ⟨fs, hr, hrun, hended, hW, hsame⟩ := X1.leave (v := some (.int (0 : Int32))) (fun h => by rw [Bd.returns] at h; cases h)
  refine ⟨_, _, pre0 _ ?_, hrun, hended, _, _, rfl, ?_, ⟨_, rfl⟩, hW, hsame.mono (by decide) (by decide)⟩
  · show Steps p.tables e below (s₁.setTop (mkF m 0 #[.val (.ref s_IA5), .val (.int p1)] [])) _
    refine XS.iloadN X0.here hx rfl (hb hby d1_0) rfl ?_
    show Steps p.tables e below (s₁.setTop (mkF m 1 #[.val (.ref s_IA5), .val (.int p1)] [(.int p1)])) _
    refine XS.ifNo X0.here hx rfl (hb hby d1_1) rfl hc_lt_0 ?_
    show Steps p.tables e below (s₁.setTop (mkF m 4 #[.val (.ref s_IA5), .val (.int p1)] [])) _
    refine XS.iloadN X0.here hx rfl (hb hby d1_4) rfl ?_
    show Steps p.tables e below (s₁.setTop (mkF m 5 #[.val (.ref s_IA5), .val (.int p1)] [(.int p1)])) _
    refine XS.aloadN X0.here hx rfl (hb hby d1_5) rfl rfl ?_
    show Steps p.tables e below (s₁.setTop (mkF m 6 #[.val (.ref s_IA5), .val (.int p1)] [(.ref s_IA5), (.int p1)])) _
    refine st1 _ ?_
    show Steps p.tables e below (T1.setTop (mkF m 9 #[.val (.ref s_IA5), .val (.int p1)] [(.int (127 : Int32)), (.int p1)])) _
    refine XS.icmpYes X1.here hx rfl (pc0 := 9) (pc' := 28) rfl (hb hby d1_9) rfl hc_gt_127 (by decide) (by decide) ?_
    show Steps p.tables e below (T1.setTop (mkF m 28 #[.val (.ref s_IA5), .val (.int p1)] [])) _
    refine XS.iconst X1.here hx rfl (hb hby d1_28) ?_
    show Steps p.tables e below (T1.setTop (mkF m 29 #[.val (.ref s_IA5), .val (.int p1)] [(.int (0 : Int32))])) _
    exact retN X1 hx (t := .boolean) Bd.returns (by simp) (hb hby d1_29) hr
  · exact ⟨rfl, N0, e1⟩
set_option maxRecDepth 65536 in
set_option maxHeartbeats 40000000 in
theorem law_k0_8_2 (l : Launch) (Z : State) (a0 : Array Value) (hw : ∀ d ∈ tables_1, d.before a0 Z = true) (ws : List Jvm.Cond) (h0 : Heap) (n0 : Nat) (s_IA5 : Addr) (s_BMP : Addr) (s_UTF8 : Addr) (K : Ctx Z h0 s_IA5 s_BMP s_UTF8) (p0 : Int32) (p1 : Int32) (p2 : Int32) (ha : ((p0 &&& (2147483647 : Int32)) % (3 : Int32)) = (0 : Int32)) (hb1 : (p2 &&& (8 : Int32)) = (8 : Int32)) (hc_lt_0 : ifCond.holds .lt p1 = false) (hc_gt_127 : if_icmp.holds .gt p1 (127 : Int32) = true) :
    MetFree l x (head1 (Jvm.Cond.code x code maxLocals ret :: ws) room_1) (fun a U => a = #[(.int p0), (.int p1), (.int p2)] ∧ Z.Warmed39 U.vm ∧ U.heap = h0) (fun _ _ _ _ _ => True) (fun _ U o U' => ∃ v L, o = .returned v ∧ QV (.int (1 : Int32)) h0 n0 v U'.heap L ∧ FrameEnd U o U' L room_1.cells room_1.slots) := by
  obtain ⟨S_IA5, E_IA5, F_IA5_lastCodePoint, S_BMP, E_BMP, F_BMP_lastCodePoint, S_UTF8, E_UTF8, F_UTF8_lastCodePoint⟩ := id K
  refine MetFree.of_bodySF (plainFor_of_name pn2) hisR ?_
  intro p e s m args below meth c s₁ Bd hml0 hP hK
  obtain ⟨rfl, hZ, hh⟩ := hP
  have hx := Bd.exec
  have hby := Bd.bytes
  have hml : c.maxLocals = 7 := hml0
  have hown : s.vm.findClass "com/example/plainwire/plainwire/definitions/RepertoireHoldsPinLaw" = some m.cls := findClass_of_methodNamed Bd.named
  have X0 : Stand p l e room_1 s m #[(.int p0), (.int p1), (.int p2)] below meth c s₁ [] 0 0 := Stand.of_body Bd
  have e0 : s₁.heap = h0 := by rw [← hh, Bd.state]; rfl
  have N0 := Fr.nil n0
  have pre0 : ∀ t, Steps p.tables e below (s₁.setTop (mkF m 0 #[.val (.int p0), .val (.int p1), .val (.int p2), .unset, .unset, .unset, .unset] [])) t → Steps p.tables e below (s₁.setTop (entryFrame m #[(.int p0), (.int p1), (.int p2)] maxLocals)) t := fun t k => castTop (by first | (simp [entryFrame, mkF, argsToLocals, Value.category, maxLocals]; done) | rfl) k
  obtain ⟨T1, X1, e1, st1⟩ := getS X0 hx hZ hown (host := "") (hw _ (List.mem_of_getElem? (i := 1) rfl)) Via.refl e0 S_IA5 (g := (mkF m 11 #[.val (.int p0), .val (.int p1), .val (.int p2), .val (.int (0 : Int32)), .unset, .unset, .unset] [])) rfl (hb hby at_11)
  obtain ⟨cq2, kq2, q2a, q2b, q2c⟩ := isOf hZ e1 E_IA5
  obtain ⟨_, _, ⟨T2, L2, k2, n2⟩, -, X2, ⟨Lc2, hQ2, l2, y2, z2⟩, st2⟩ := X1.virtualBack hx (y := (⟨"com/example/plainwire/plainwire/definitions/Repertoire", "holds", "(I)Z"⟩ : MethodName)) (z := (⟨"com/example/plainwire/plainwire/definitions/Repertoire", "holds", "(I)Z"⟩ : MethodName)) hown (mvT hZ (hw _ (List.mem_of_getElem? (i := 9) rfl))) (mvT hZ (hw _ (List.mem_of_getElem? (i := 10) rfl))) (notFace_of_selects (args := #[]) (mvT hZ (hw _ (List.mem_of_getElem? (i := 12) rfl)))) (mvT hZ (hw _ (List.mem_of_getElem? (i := 12) rfl))) (mvT hZ (hw _ (List.mem_of_getElem? (i := 11) rfl))) (by decide) (backOf (W := 0) (r18 l Z a0 hw [] h0 n0 s_IA5 s_BMP s_UTF8 K p1 hc_lt_0 hc_gt_127) hZ (hw _ (List.mem_of_getElem? (i := 13) rfl)) (hw _ (List.mem_of_getElem? (i := 2) rfl)) (by decide) (by decide)) q2a q2c (g := (mkF m 170 #[.val (.int p0), .val (.int p1), .val (.int p2), .val (.int (0 : Int32)), .val (.ref s_IA5), .val (.int p1), .val (.int (0 : Int32))] [(.int p1), (.ref s_IA5)])) rfl (by rw [hml]; rfl) (Steps.refl _) (argsL := [(.int p1)]) (rest := []) (lenOf pd1 rfl) rfl (by show 2 * 0 + _ ≤ _; exact Nat.le_of_eq rfl) (hb hby at_170) (fun _ _ => ⟨rfl, e1, (by decide : 0 + 0 ≤ _), (by decide : 0 + 0 ≤ _)⟩)
  dsimp only [Pt.U, Pt.locs, Pt.cells, Pt.slots] at X2 l2 y2 z2 st2 hQ2
  subst l2 y2 z2
  obtain ⟨rfl, N2q, e2⟩ := hQ2
  have N2 := Fr.app N0 N2q
  obtain ⟨fs, hr, hrun, hended, hW, hsame⟩ := X2.leave (v := some (.int (1 : Int32))) (fun h => by rw [Bd.returns] at h; cases h)
  refine ⟨_, _, pre0 _ ?_, hrun, hended, _, _, rfl, ?_, ⟨_, rfl⟩, hW, hsame.mono (by decide) (by decide)⟩
  · show Steps p.tables e below (s₁.setTop (mkF m 0 #[.val (.int p0), .val (.int p1), .val (.int p2), .unset, .unset, .unset, .unset] [])) _
    refine XS.iloadN X0.here hx rfl (hb hby at_0) rfl ?_
    show Steps p.tables e below (s₁.setTop (mkF m 1 #[.val (.int p0), .val (.int p1), .val (.int p2), .unset, .unset, .unset, .unset] [(.int p0)])) _
    refine X0.ldcInt hx hown (mvT hZ (hw _ (List.mem_of_getElem? (i := 0) rfl))) (g := (mkF m 1 #[.val (.int p0), .val (.int p1), .val (.int p2), .unset, .unset, .unset, .unset] [(.int p0)])) rfl (hb hby at_1) _ ?_
    show Steps p.tables e below (s₁.setTop (mkF m 3 #[.val (.int p0), .val (.int p1), .val (.int p2), .unset, .unset, .unset, .unset] [(.int (2147483647 : Int32)), (.int p0)])) _
    refine XS.iand X0.here hx rfl (hb hby at_3) rfl ?_
    show Steps p.tables e below (s₁.setTop (mkF m 4 #[.val (.int p0), .val (.int p1), .val (.int p2), .unset, .unset, .unset, .unset] [(.int (p0 &&& (2147483647 : Int32)))])) _
    refine XS.iconst X0.here hx rfl (hb hby at_4) ?_
    show Steps p.tables e below (s₁.setTop (mkF m 5 #[.val (.int p0), .val (.int p1), .val (.int p2), .unset, .unset, .unset, .unset] [(.int (3 : Int32)), (.int (p0 &&& (2147483647 : Int32)))])) _
    refine Jvm.RoadKit.iremM X0 hx rfl (hb hby at_5) rfl (by decide) ?_
    show Steps p.tables e below (s₁.setTop (mkF m 6 #[.val (.int p0), .val (.int p1), .val (.int p2), .unset, .unset, .unset, .unset] [(.int ((p0 &&& (2147483647 : Int32)) % (3 : Int32)))])) _
    rw [ha]
    show Steps p.tables e below (s₁.setTop (mkF m 6 #[.val (.int p0), .val (.int p1), .val (.int p2), .unset, .unset, .unset, .unset] [(.int (0 : Int32))])) _
    refine XS.istoreN X0.here hx rfl (hb hby at_6) rfl (l' := #[.val (.int p0), .val (.int p1), .val (.int p2), .val (.int (0 : Int32)), .unset, .unset, .unset]) rfl ?_
    show Steps p.tables e below (s₁.setTop (mkF m 7 #[.val (.int p0), .val (.int p1), .val (.int p2), .val (.int (0 : Int32)), .unset, .unset, .unset] [])) _
    refine XS.iloadN X0.here hx rfl (hb hby at_7) rfl ?_
    show Steps p.tables e below (s₁.setTop (mkF m 8 #[.val (.int p0), .val (.int p1), .val (.int p2), .val (.int (0 : Int32)), .unset, .unset, .unset] [(.int (0 : Int32))])) _
    refine XS.ifNo X0.here hx rfl (hb hby at_8) rfl (by decide +kernel) ?_
    show Steps p.tables e below (s₁.setTop (mkF m 11 #[.val (.int p0), .val (.int p1), .val (.int p2), .val (.int (0 : Int32)), .unset, .unset, .unset] [])) _
    refine st1 _ ?_
    show Steps p.tables e below (T1.setTop (mkF m 14 #[.val (.int p0), .val (.int p1), .val (.int p2), .val (.int (0 : Int32)), .unset, .unset, .unset] [(.ref s_IA5)])) _
    refine XS.astore X1.here hx rfl (hb hby at_14) rfl rfl (l' := #[.val (.int p0), .val (.int p1), .val (.int p2), .val (.int (0 : Int32)), .val (.ref s_IA5), .unset, .unset]) rfl ?_
    show Steps p.tables e below (T1.setTop (mkF m 16 #[.val (.int p0), .val (.int p1), .val (.int p2), .val (.int (0 : Int32)), .val (.ref s_IA5), .unset, .unset] [])) _
    refine XS.goto X1.here hx rfl (pc0 := 16) (pc' := 37) rfl (hb hby at_16) (by decide) (by decide) ?_
    show Steps p.tables e below (T1.setTop (mkF m 37 #[.val (.int p0), .val (.int p1), .val (.int p2), .val (.int (0 : Int32)), .val (.ref s_IA5), .unset, .unset] [])) _
    refine XS.iloadN X1.here hx rfl (hb hby at_37) rfl ?_
    show Steps p.tables e below (T1.setTop (mkF m 38 #[.val (.int p0), .val (.int p1), .val (.int p2), .val (.int (0 : Int32)), .val (.ref s_IA5), .unset, .unset] [(.int p2)])) _
    refine XS.bipush X1.here hx rfl (hb hby at_38) ?_
    show Steps p.tables e below (T1.setTop (mkF m 40 #[.val (.int p0), .val (.int p1), .val (.int p2), .val (.int (0 : Int32)), .val (.ref s_IA5), .unset, .unset] [(.int (8 : Int32)), (.int p2)])) _
    refine XS.iand X1.here hx rfl (hb hby at_40) rfl ?_
    show Steps p.tables e below (T1.setTop (mkF m 41 #[.val (.int p0), .val (.int p1), .val (.int p2), .val (.int (0 : Int32)), .val (.ref s_IA5), .unset, .unset] [(.int (p2 &&& (8 : Int32)))])) _
    rw [hb1]
    show Steps p.tables e below (T1.setTop (mkF m 41 #[.val (.int p0), .val (.int p1), .val (.int p2), .val (.int (0 : Int32)), .val (.ref s_IA5), .unset, .unset] [(.int (8 : Int32))])) _
    refine XS.ifNo X1.here hx rfl (hb hby at_41) rfl (by decide +kernel) ?_
    show Steps p.tables e below (T1.setTop (mkF m 44 #[.val (.int p0), .val (.int p1), .val (.int p2), .val (.int (0 : Int32)), .val (.ref s_IA5), .unset, .unset] [])) _
    refine XS.iloadN X1.here hx rfl (hb hby at_44) rfl ?_
    show Steps p.tables e below (T1.setTop (mkF m 45 #[.val (.int p0), .val (.int p1), .val (.int p2), .val (.int (0 : Int32)), .val (.ref s_IA5), .unset, .unset] [(.int p1)])) _
    refine XS.istore X1.here hx rfl (hb hby at_45) rfl (l' := #[.val (.int p0), .val (.int p1), .val (.int p2), .val (.int (0 : Int32)), .val (.ref s_IA5), .val (.int p1), .unset]) rfl ?_
    show Steps p.tables e below (T1.setTop (mkF m 47 #[.val (.int p0), .val (.int p1), .val (.int p2), .val (.int (0 : Int32)), .val (.ref s_IA5), .val (.int p1), .unset] [])) _
    refine XS.goto X1.here hx rfl (pc0 := 47) (pc' := 66) rfl (hb hby at_47) (by decide) (by decide) ?_
    show Steps p.tables e below (T1.setTop (mkF m 66 #[.val (.int p0), .val (.int p1), .val (.int p2), .val (.int (0 : Int32)), .val (.ref s_IA5), .val (.int p1), .unset] [])) _
    refine XS.iloadN X1.here hx rfl (hb hby at_66) rfl ?_
    show Steps p.tables e below (T1.setTop (mkF m 67 #[.val (.int p0), .val (.int p1), .val (.int p2), .val (.int (0 : Int32)), .val (.ref s_IA5), .val (.int p1), .unset] [(.int (0 : Int32))])) _
    refine XS.ifNo X1.here hx rfl (hb hby at_67) rfl (by decide +kernel) ?_
    show Steps p.tables e below (T1.setTop (mkF m 70 #[.val (.int p0), .val (.int p1), .val (.int p2), .val (.int (0 : Int32)), .val (.ref s_IA5), .val (.int p1), .unset] [])) _
    refine XS.iload X1.here hx rfl (hb hby at_70) rfl ?_
    show Steps p.tables e below (T1.setTop (mkF m 72 #[.val (.int p0), .val (.int p1), .val (.int p2), .val (.int (0 : Int32)), .val (.ref s_IA5), .val (.int p1), .unset] [(.int p1)])) _
    refine XS.ifNo X1.here hx rfl (hb hby at_72) rfl hc_lt_0 ?_
    show Steps p.tables e below (T1.setTop (mkF m 75 #[.val (.int p0), .val (.int p1), .val (.int p2), .val (.int (0 : Int32)), .val (.ref s_IA5), .val (.int p1), .unset] [])) _
    refine XS.iload X1.here hx rfl (hb hby at_75) rfl ?_
    show Steps p.tables e below (T1.setTop (mkF m 77 #[.val (.int p0), .val (.int p1), .val (.int p2), .val (.int (0 : Int32)), .val (.ref s_IA5), .val (.int p1), .unset] [(.int p1)])) _
    refine XS.bipush X1.here hx rfl (hb hby at_77) ?_
    show Steps p.tables e below (T1.setTop (mkF m 79 #[.val (.int p0), .val (.int p1), .val (.int p2), .val (.int (0 : Int32)), .val (.ref s_IA5), .val (.int p1), .unset] [(.int (127 : Int32)), (.int p1)])) _
    refine XS.icmpYes X1.here hx rfl (pc0 := 79) (pc' := 86) rfl (hb hby at_79) rfl hc_gt_127 (by decide) (by decide) ?_
    show Steps p.tables e below (T1.setTop (mkF m 86 #[.val (.int p0), .val (.int p1), .val (.int p2), .val (.int (0 : Int32)), .val (.ref s_IA5), .val (.int p1), .unset] [])) _
    refine XS.iconst X1.here hx rfl (hb hby at_86) ?_
    show Steps p.tables e below (T1.setTop (mkF m 87 #[.val (.int p0), .val (.int p1), .val (.int p2), .val (.int (0 : Int32)), .val (.ref s_IA5), .val (.int p1), .unset] [(.int (0 : Int32))])) _
    refine XS.istore X1.here hx rfl (hb hby at_87) rfl (l' := #[.val (.int p0), .val (.int p1), .val (.int p2), .val (.int (0 : Int32)), .val (.ref s_IA5), .val (.int p1), .val (.int (0 : Int32))]) rfl ?_
    show Steps p.tables e below (T1.setTop (mkF m 89 #[.val (.int p0), .val (.int p1), .val (.int p2), .val (.int (0 : Int32)), .val (.ref s_IA5), .val (.int p1), .val (.int (0 : Int32))] [])) _
    refine XS.goto X1.here hx rfl (pc0 := 89) (pc' := 166) rfl (hb hby at_89) (by decide) (by decide) ?_
    show Steps p.tables e below (T1.setTop (mkF m 166 #[.val (.int p0), .val (.int p1), .val (.int p2), .val (.int (0 : Int32)), .val (.ref s_IA5), .val (.int p1), .val (.int (0 : Int32))] [])) _
    refine XS.aload X1.here hx rfl (hb hby at_166) rfl rfl ?_
    show Steps p.tables e below (T1.setTop (mkF m 168 #[.val (.int p0), .val (.int p1), .val (.int p2), .val (.int (0 : Int32)), .val (.ref s_IA5), .val (.int p1), .val (.int (0 : Int32))] [(.ref s_IA5)])) _
    refine XS.iload X1.here hx rfl (hb hby at_168) rfl ?_
    show Steps p.tables e below (T1.setTop (mkF m 170 #[.val (.int p0), .val (.int p1), .val (.int p2), .val (.int (0 : Int32)), .val (.ref s_IA5), .val (.int p1), .val (.int (0 : Int32))] [(.int p1), (.ref s_IA5)])) _
    refine st2.trans ?_
    show Steps p.tables e below (T2.setTop (mkF m 173 #[.val (.int p0), .val (.int p1), .val (.int p2), .val (.int (0 : Int32)), .val (.ref s_IA5), .val (.int p1), .val (.int (0 : Int32))] [(.int (0 : Int32))])) _
    refine XS.iload X2.here hx rfl (hb hby at_173) rfl ?_
    show Steps p.tables e below (T2.setTop (mkF m 175 #[.val (.int p0), .val (.int p1), .val (.int p2), .val (.int (0 : Int32)), .val (.ref s_IA5), .val (.int p1), .val (.int (0 : Int32))] [(.int (0 : Int32)), (.int (0 : Int32))])) _
    refine XS.icmpNo X2.here hx rfl (hb hby at_175) rfl (by decide +kernel) ?_
    show Steps p.tables e below (T2.setTop (mkF m 178 #[.val (.int p0), .val (.int p1), .val (.int p2), .val (.int (0 : Int32)), .val (.ref s_IA5), .val (.int p1), .val (.int (0 : Int32))] [])) _
    refine XS.iconst X2.here hx rfl (hb hby at_178) ?_
    show Steps p.tables e below (T2.setTop (mkF m 179 #[.val (.int p0), .val (.int p1), .val (.int p2), .val (.int (0 : Int32)), .val (.ref s_IA5), .val (.int p1), .val (.int (0 : Int32))] [(.int (1 : Int32))])) _
    refine XS.goto X2.here hx rfl (pc0 := 179) (pc' := 183) rfl (hb hby at_179) (by decide) (by decide) ?_
    show Steps p.tables e below (T2.setTop (mkF m 183 #[.val (.int p0), .val (.int p1), .val (.int p2), .val (.int (0 : Int32)), .val (.ref s_IA5), .val (.int p1), .val (.int (0 : Int32))] [(.int (1 : Int32))])) _
    exact retN X2 hx (t := .boolean) Bd.returns (by simp) (hb hby at_183) hr
  · exact ⟨rfl, N2, e2⟩
set_option maxRecDepth 65536 in
set_option maxHeartbeats 40000000 in
theorem r20 (l : Launch) (Z : State) (a0 : Array Value) (hw : ∀ d ∈ tables_1, d.before a0 Z = true) (ws : List Jvm.Cond) (h0 : Heap) (n0 : Nat) (s_IA5 : Addr) (s_BMP : Addr) (s_UTF8 : Addr) (K : Ctx Z h0 s_IA5 s_BMP s_UTF8) (p1 : Int32) (p2 : Int32) (hc_lt_0 : ifCond.holds .lt ((own_bnd (p2 &&& (7 : Int32))) + ((p1 &&& (7 : Int32)) - (3 : Int32))) = true) :
    MetFree l (⟨"com/example/plainwire/plainwire/definitions/Repertoire", "holds", "(I)Z"⟩ : MethodName) (head1 (Jvm.Cond.code (⟨"com/example/plainwire/plainwire/definitions/Repertoire", "holds", "(I)Z"⟩ : MethodName) prog_37_method_5_code 2 (some .boolean) :: ws) ({ frames := 0, cells := 0, slots := 0, locals := 0 } : Room)) (fun a U => a = #[(.ref s_BMP), (.int ((own_bnd (p2 &&& (7 : Int32))) + ((p1 &&& (7 : Int32)) - (3 : Int32))))] ∧ Z.Warmed39 U.vm ∧ U.heap = h0) (fun _ _ _ _ _ => True) (fun _ U o U' => ∃ v L, o = .returned v ∧ QV (.int (0 : Int32)) h0 n0 v U'.heap L ∧ FrameEnd U o U' L ({ frames := 0, cells := 0, slots := 0, locals := 0 } : Room).cells ({ frames := 0, cells := 0, slots := 0, locals := 0 } : Room).slots) := by
  obtain ⟨S_IA5, E_IA5, F_IA5_lastCodePoint, S_BMP, E_BMP, F_BMP_lastCodePoint, S_UTF8, E_UTF8, F_UTF8_lastCodePoint⟩ := id K
  refine MetFree.of_bodySF (plainFor_of_name pn1) hisR ?_
  intro p e s m args below meth c s₁ Bd hml0 hP hK
  obtain ⟨rfl, hZ, hh⟩ := hP
  have hx := Bd.exec
  have hby := Bd.bytes
  have hml : c.maxLocals = 2 := hml0
  have hown : s.vm.findClass "com/example/plainwire/plainwire/definitions/Repertoire" = some m.cls := findClass_of_methodNamed Bd.named
  have X0 : Stand p l e ({ frames := 0, cells := 0, slots := 0, locals := 0 } : Room) s m #[(.ref s_BMP), (.int ((own_bnd (p2 &&& (7 : Int32))) + ((p1 &&& (7 : Int32)) - (3 : Int32))))] below meth c s₁ [] 0 0 := Stand.of_body Bd
  have e0 : s₁.heap = h0 := by rw [← hh, Bd.state]; rfl
  have N0 := Fr.nil n0
  have pre0 : ∀ t, Steps p.tables e below (s₁.setTop (mkF m 0 #[.val (.ref s_BMP), .val (.int ((own_bnd (p2 &&& (7 : Int32))) + ((p1 &&& (7 : Int32)) - (3 : Int32))))] [])) t → Steps p.tables e below (s₁.setTop (entryFrame m #[(.ref s_BMP), (.int ((own_bnd (p2 &&& (7 : Int32))) + ((p1 &&& (7 : Int32)) - (3 : Int32))))] 2)) t := fun t k => castTop (by first | (simp [entryFrame, mkF, argsToLocals, Value.category]; done) | rfl) k
  obtain ⟨fs, hr, hrun, hended, hW, hsame⟩ := X0.leave (v := some (.int (0 : Int32))) (fun h => by rw [Bd.returns] at h; cases h)
  refine ⟨_, _, pre0 _ ?_, hrun, hended, _, _, rfl, ?_, ⟨_, rfl⟩, hW, hsame.mono (by decide) (by decide)⟩
  · show Steps p.tables e below (s₁.setTop (mkF m 0 #[.val (.ref s_BMP), .val (.int ((own_bnd (p2 &&& (7 : Int32))) + ((p1 &&& (7 : Int32)) - (3 : Int32))))] [])) _
    refine XS.iloadN X0.here hx rfl (hb hby d1_0) rfl ?_
    show Steps p.tables e below (s₁.setTop (mkF m 1 #[.val (.ref s_BMP), .val (.int ((own_bnd (p2 &&& (7 : Int32))) + ((p1 &&& (7 : Int32)) - (3 : Int32))))] [(.int ((own_bnd (p2 &&& (7 : Int32))) + ((p1 &&& (7 : Int32)) - (3 : Int32))))])) _
    refine XS.ifYes X0.here hx rfl (pc0 := 1) (pc' := 28) rfl (hb hby d1_1) rfl hc_lt_0 (by decide) (by decide) ?_
    show Steps p.tables e below (s₁.setTop (mkF m 28 #[.val (.ref s_BMP), .val (.int ((own_bnd (p2 &&& (7 : Int32))) + ((p1 &&& (7 : Int32)) - (3 : Int32))))] [])) _
    refine XS.iconst X0.here hx rfl (hb hby d1_28) ?_
    show Steps p.tables e below (s₁.setTop (mkF m 29 #[.val (.ref s_BMP), .val (.int ((own_bnd (p2 &&& (7 : Int32))) + ((p1 &&& (7 : Int32)) - (3 : Int32))))] [(.int (0 : Int32))])) _
    exact retN X0 hx (t := .boolean) Bd.returns (by simp) (hb hby d1_29) hr
  · exact ⟨rfl, N0, e0⟩
set_option maxRecDepth 65536 in
set_option maxHeartbeats 40000000 in
theorem law_k1_0_0 (l : Launch) (Z : State) (a0 : Array Value) (hw : ∀ d ∈ tables_1, d.before a0 Z = true) (ws : List Jvm.Cond) (h0 : Heap) (n0 : Nat) (s_IA5 : Addr) (s_BMP : Addr) (s_UTF8 : Addr) (K : Ctx Z h0 s_IA5 s_BMP s_UTF8) (p0 : Int32) (p1 : Int32) (p2 : Int32) (ha : ((p0 &&& (2147483647 : Int32)) % (3 : Int32)) = (1 : Int32)) (hb1 : (p2 &&& (8 : Int32)) = (0 : Int32)) (hc_lt_0 : ifCond.holds .lt ((own_bnd (p2 &&& (7 : Int32))) + ((p1 &&& (7 : Int32)) - (3 : Int32))) = true) (hc_lt_57344 : if_icmp.holds .lt ((own_bnd (p2 &&& (7 : Int32))) + ((p1 &&& (7 : Int32)) - (3 : Int32))) (57344 : Int32) = true) :
    MetFree l x (head1 (Jvm.Cond.code x code maxLocals ret :: ws) room_1) (fun a U => a = #[(.int p0), (.int p1), (.int p2)] ∧ Z.Warmed39 U.vm ∧ U.heap = h0) (fun _ _ _ _ _ => True) (fun _ U o U' => ∃ v L, o = .returned v ∧ QV (.int (1 : Int32)) h0 n0 v U'.heap L ∧ FrameEnd U o U' L room_1.cells room_1.slots) := by
  obtain ⟨S_IA5, E_IA5, F_IA5_lastCodePoint, S_BMP, E_BMP, F_BMP_lastCodePoint, S_UTF8, E_UTF8, F_UTF8_lastCodePoint⟩ := id K
  refine MetFree.of_bodySF (plainFor_of_name pn2) hisR ?_
  intro p e s m args below meth c s₁ Bd hml0 hP hK
  obtain ⟨rfl, hZ, hh⟩ := hP
  have hx := Bd.exec
  have hby := Bd.bytes
  have hml : c.maxLocals = 7 := hml0
  have hown : s.vm.findClass "com/example/plainwire/plainwire/definitions/RepertoireHoldsPinLaw" = some m.cls := findClass_of_methodNamed Bd.named
  have X0 : Stand p l e room_1 s m #[(.int p0), (.int p1), (.int p2)] below meth c s₁ [] 0 0 := Stand.of_body Bd
  have e0 : s₁.heap = h0 := by rw [← hh, Bd.state]; rfl
  have N0 := Fr.nil n0
  have pre0 : ∀ t, Steps p.tables e below (s₁.setTop (mkF m 0 #[.val (.int p0), .val (.int p1), .val (.int p2), .unset, .unset, .unset, .unset] [])) t → Steps p.tables e below (s₁.setTop (entryFrame m #[(.int p0), (.int p1), (.int p2)] maxLocals)) t := fun t k => castTop (by first | (simp [entryFrame, mkF, argsToLocals, Value.category, maxLocals]; done) | rfl) k
  obtain ⟨T1, X1, e1, st1⟩ := getS X0 hx hZ hown (host := "") (hw _ (List.mem_of_getElem? (i := 16) rfl)) Via.refl e0 S_BMP (g := (mkF m 24 #[.val (.int p0), .val (.int p1), .val (.int p2), .val (.int (1 : Int32)), .unset, .unset, .unset] [])) rfl (hb hby at_24)
  obtain ⟨_, _, ⟨T2, L2, k2, n2⟩, -, X2, ⟨Lc2, hQ2, l2, y2, z2⟩, st2⟩ := Jvm.LawKit.callS X1 hx (y := (⟨"com/example/plainwire/plainwire/definitions/RepertoireHoldsPinLaw", "boundary", "(I)I"⟩ : MethodName)) hown (mvT hZ (hw _ (List.mem_of_getElem? (i := 4) rfl))) (mvT hZ (hw _ (List.mem_of_getElem? (i := 5) rfl))) (mvT hZ (hw _ (List.mem_of_getElem? (i := 6) rfl))) (mvT hZ (hw _ (List.mem_of_getElem? (i := 7) rfl))) (by decide) (backOf (W := 0) (own_bndK l Z a0 hw [] h0 n0 s_IA5 s_BMP s_UTF8 K (p2 &&& (7 : Int32)) (own_and8 p2)) hZ (hw _ (List.mem_of_getElem? (i := 7) rfl)) (hw _ (List.mem_of_getElem? (i := 6) rfl)) (by decide) (by decide)) (g := (mkF m 54 #[.val (.int p0), .val (.int p1), .val (.int p2), .val (.int (1 : Int32)), .val (.ref s_BMP), .unset, .unset] [(.int (p2 &&& (7 : Int32)))])) rfl (by rw [hml]; rfl) (argsL := [(.int (p2 &&& (7 : Int32)))]) (rest := []) (lenOf pd0 rfl) rfl (by show 2 * 0 + _ ≤ _; exact Nat.le_of_eq rfl) (hb hby at_54) (fun _ _ => ⟨rfl, e1, (by decide : 0 + 0 ≤ _), (by decide : 0 + 0 ≤ _)⟩)
  dsimp only [Pt.U, Pt.locs, Pt.cells, Pt.slots] at X2 l2 y2 z2 st2 hQ2
  subst l2 y2 z2
  obtain ⟨rfl, N2q, e2⟩ := hQ2
  have N2 := Fr.app N0 N2q
  obtain ⟨cq3, kq3, q3a, q3b, q3c⟩ := isOf hZ e2 E_BMP
  obtain ⟨_, _, ⟨T3, L3, k3, n3⟩, -, X3, ⟨Lc3, hQ3, l3, y3, z3⟩, st3⟩ := X2.virtualBack hx (y := (⟨"com/example/plainwire/plainwire/definitions/Repertoire", "holds", "(I)Z"⟩ : MethodName)) (z := (⟨"com/example/plainwire/plainwire/definitions/Repertoire", "holds", "(I)Z"⟩ : MethodName)) hown (mvT hZ (hw _ (List.mem_of_getElem? (i := 9) rfl))) (mvT hZ (hw _ (List.mem_of_getElem? (i := 10) rfl))) (notFace_of_selects (args := #[]) (mvT hZ (hw _ (List.mem_of_getElem? (i := 12) rfl)))) (mvT hZ (hw _ (List.mem_of_getElem? (i := 12) rfl))) (mvT hZ (hw _ (List.mem_of_getElem? (i := 11) rfl))) (by decide) (backOf (W := 0) (r20 l Z a0 hw [] h0 n0 s_IA5 s_BMP s_UTF8 K p1 p2 hc_lt_0) hZ (hw _ (List.mem_of_getElem? (i := 13) rfl)) (hw _ (List.mem_of_getElem? (i := 2) rfl)) (by decide) (by decide)) q3a q3c (g := (mkF m 170 #[.val (.int p0), .val (.int p1), .val (.int p2), .val (.int (1 : Int32)), .val (.ref s_BMP), .val (.int ((own_bnd (p2 &&& (7 : Int32))) + ((p1 &&& (7 : Int32)) - (3 : Int32)))), .val (.int (0 : Int32))] [(.int ((own_bnd (p2 &&& (7 : Int32))) + ((p1 &&& (7 : Int32)) - (3 : Int32)))), (.ref s_BMP)])) rfl (by rw [hml]; rfl) (Steps.refl _) (argsL := [(.int ((own_bnd (p2 &&& (7 : Int32))) + ((p1 &&& (7 : Int32)) - (3 : Int32))))]) (rest := []) (lenOf pd1 rfl) rfl (by show 2 * 0 + _ ≤ _; exact Nat.le_of_eq rfl) (hb hby at_170) (fun _ _ => ⟨rfl, e2, (by decide : 0 + 0 ≤ _), (by decide : 0 + 0 ≤ _)⟩)
  dsimp only [Pt.U, Pt.locs, Pt.cells, Pt.slots] at X3 l3 y3 z3 st3 hQ3
  subst l3 y3 z3
  obtain ⟨rfl, N3q, e3⟩ := hQ3
  have N3 := Fr.app N2 N3q
  obtain ⟨fs, hr, hrun, hended, hW, hsame⟩ := X3.leave (v := some (.int (1 : Int32))) (fun h => by rw [Bd.returns] at h; cases h)
  refine ⟨_, _, pre0 _ ?_, hrun, hended, _, _, rfl, ?_, ⟨_, rfl⟩, hW, hsame.mono (by decide) (by decide)⟩
  · show Steps p.tables e below (s₁.setTop (mkF m 0 #[.val (.int p0), .val (.int p1), .val (.int p2), .unset, .unset, .unset, .unset] [])) _
    refine XS.iloadN X0.here hx rfl (hb hby at_0) rfl ?_
    show Steps p.tables e below (s₁.setTop (mkF m 1 #[.val (.int p0), .val (.int p1), .val (.int p2), .unset, .unset, .unset, .unset] [(.int p0)])) _
    refine X0.ldcInt hx hown (mvT hZ (hw _ (List.mem_of_getElem? (i := 0) rfl))) (g := (mkF m 1 #[.val (.int p0), .val (.int p1), .val (.int p2), .unset, .unset, .unset, .unset] [(.int p0)])) rfl (hb hby at_1) _ ?_
    show Steps p.tables e below (s₁.setTop (mkF m 3 #[.val (.int p0), .val (.int p1), .val (.int p2), .unset, .unset, .unset, .unset] [(.int (2147483647 : Int32)), (.int p0)])) _
    refine XS.iand X0.here hx rfl (hb hby at_3) rfl ?_
    show Steps p.tables e below (s₁.setTop (mkF m 4 #[.val (.int p0), .val (.int p1), .val (.int p2), .unset, .unset, .unset, .unset] [(.int (p0 &&& (2147483647 : Int32)))])) _
    refine XS.iconst X0.here hx rfl (hb hby at_4) ?_
    show Steps p.tables e below (s₁.setTop (mkF m 5 #[.val (.int p0), .val (.int p1), .val (.int p2), .unset, .unset, .unset, .unset] [(.int (3 : Int32)), (.int (p0 &&& (2147483647 : Int32)))])) _
    refine Jvm.RoadKit.iremM X0 hx rfl (hb hby at_5) rfl (by decide) ?_
    show Steps p.tables e below (s₁.setTop (mkF m 6 #[.val (.int p0), .val (.int p1), .val (.int p2), .unset, .unset, .unset, .unset] [(.int ((p0 &&& (2147483647 : Int32)) % (3 : Int32)))])) _
    rw [ha]
    show Steps p.tables e below (s₁.setTop (mkF m 6 #[.val (.int p0), .val (.int p1), .val (.int p2), .unset, .unset, .unset, .unset] [(.int (1 : Int32))])) _
    refine XS.istoreN X0.here hx rfl (hb hby at_6) rfl (l' := #[.val (.int p0), .val (.int p1), .val (.int p2), .val (.int (1 : Int32)), .unset, .unset, .unset]) rfl ?_
    show Steps p.tables e below (s₁.setTop (mkF m 7 #[.val (.int p0), .val (.int p1), .val (.int p2), .val (.int (1 : Int32)), .unset, .unset, .unset] [])) _
    refine XS.iloadN X0.here hx rfl (hb hby at_7) rfl ?_
    show Steps p.tables e below (s₁.setTop (mkF m 8 #[.val (.int p0), .val (.int p1), .val (.int p2), .val (.int (1 : Int32)), .unset, .unset, .unset] [(.int (1 : Int32))])) _
    refine XS.ifYes X0.here hx rfl (pc0 := 8) (pc' := 19) rfl (hb hby at_8) rfl (by decide +kernel) (by decide) (by decide) ?_
    show Steps p.tables e below (s₁.setTop (mkF m 19 #[.val (.int p0), .val (.int p1), .val (.int p2), .val (.int (1 : Int32)), .unset, .unset, .unset] [])) _
    refine XS.iloadN X0.here hx rfl (hb hby at_19) rfl ?_
    show Steps p.tables e below (s₁.setTop (mkF m 20 #[.val (.int p0), .val (.int p1), .val (.int p2), .val (.int (1 : Int32)), .unset, .unset, .unset] [(.int (1 : Int32))])) _
    refine XS.iconst X0.here hx rfl (hb hby at_20) ?_
    show Steps p.tables e below (s₁.setTop (mkF m 21 #[.val (.int p0), .val (.int p1), .val (.int p2), .val (.int (1 : Int32)), .unset, .unset, .unset] [(.int (1 : Int32)), (.int (1 : Int32))])) _
    refine XS.icmpNo X0.here hx rfl (hb hby at_21) rfl (by decide +kernel) ?_
    show Steps p.tables e below (s₁.setTop (mkF m 24 #[.val (.int p0), .val (.int p1), .val (.int p2), .val (.int (1 : Int32)), .unset, .unset, .unset] [])) _
    refine st1 _ ?_
    show Steps p.tables e below (T1.setTop (mkF m 27 #[.val (.int p0), .val (.int p1), .val (.int p2), .val (.int (1 : Int32)), .unset, .unset, .unset] [(.ref s_BMP)])) _
    refine XS.astore X1.here hx rfl (hb hby at_27) rfl rfl (l' := #[.val (.int p0), .val (.int p1), .val (.int p2), .val (.int (1 : Int32)), .val (.ref s_BMP), .unset, .unset]) rfl ?_
    show Steps p.tables e below (T1.setTop (mkF m 29 #[.val (.int p0), .val (.int p1), .val (.int p2), .val (.int (1 : Int32)), .val (.ref s_BMP), .unset, .unset] [])) _
    refine XS.goto X1.here hx rfl (pc0 := 29) (pc' := 37) rfl (hb hby at_29) (by decide) (by decide) ?_
    show Steps p.tables e below (T1.setTop (mkF m 37 #[.val (.int p0), .val (.int p1), .val (.int p2), .val (.int (1 : Int32)), .val (.ref s_BMP), .unset, .unset] [])) _
    refine XS.iloadN X1.here hx rfl (hb hby at_37) rfl ?_
    show Steps p.tables e below (T1.setTop (mkF m 38 #[.val (.int p0), .val (.int p1), .val (.int p2), .val (.int (1 : Int32)), .val (.ref s_BMP), .unset, .unset] [(.int p2)])) _
    refine XS.bipush X1.here hx rfl (hb hby at_38) ?_
    show Steps p.tables e below (T1.setTop (mkF m 40 #[.val (.int p0), .val (.int p1), .val (.int p2), .val (.int (1 : Int32)), .val (.ref s_BMP), .unset, .unset] [(.int (8 : Int32)), (.int p2)])) _
    refine XS.iand X1.here hx rfl (hb hby at_40) rfl ?_
    show Steps p.tables e below (T1.setTop (mkF m 41 #[.val (.int p0), .val (.int p1), .val (.int p2), .val (.int (1 : Int32)), .val (.ref s_BMP), .unset, .unset] [(.int (p2 &&& (8 : Int32)))])) _
    rw [hb1]
    show Steps p.tables e below (T1.setTop (mkF m 41 #[.val (.int p0), .val (.int p1), .val (.int p2), .val (.int (1 : Int32)), .val (.ref s_BMP), .unset, .unset] [(.int (0 : Int32))])) _
    refine XS.ifYes X1.here hx rfl (pc0 := 41) (pc' := 50) rfl (hb hby at_41) rfl (by decide +kernel) (by decide) (by decide) ?_
    show Steps p.tables e below (T1.setTop (mkF m 50 #[.val (.int p0), .val (.int p1), .val (.int p2), .val (.int (1 : Int32)), .val (.ref s_BMP), .unset, .unset] [])) _
    refine XS.iloadN X1.here hx rfl (hb hby at_50) rfl ?_
    show Steps p.tables e below (T1.setTop (mkF m 51 #[.val (.int p0), .val (.int p1), .val (.int p2), .val (.int (1 : Int32)), .val (.ref s_BMP), .unset, .unset] [(.int p2)])) _
    refine XS.bipush X1.here hx rfl (hb hby at_51) ?_
    show Steps p.tables e below (T1.setTop (mkF m 53 #[.val (.int p0), .val (.int p1), .val (.int p2), .val (.int (1 : Int32)), .val (.ref s_BMP), .unset, .unset] [(.int (7 : Int32)), (.int p2)])) _
    refine XS.iand X1.here hx rfl (hb hby at_53) rfl ?_
    show Steps p.tables e below (T1.setTop (mkF m 54 #[.val (.int p0), .val (.int p1), .val (.int p2), .val (.int (1 : Int32)), .val (.ref s_BMP), .unset, .unset] [(.int (p2 &&& (7 : Int32)))])) _
    refine st2 _ ?_
    show Steps p.tables e below (T2.setTop (mkF m 57 #[.val (.int p0), .val (.int p1), .val (.int p2), .val (.int (1 : Int32)), .val (.ref s_BMP), .unset, .unset] [(.int (own_bnd (p2 &&& (7 : Int32))))])) _
    refine XS.iloadN X2.here hx rfl (hb hby at_57) rfl ?_
    show Steps p.tables e below (T2.setTop (mkF m 58 #[.val (.int p0), .val (.int p1), .val (.int p2), .val (.int (1 : Int32)), .val (.ref s_BMP), .unset, .unset] [(.int p1), (.int (own_bnd (p2 &&& (7 : Int32))))])) _
    refine XS.bipush X2.here hx rfl (hb hby at_58) ?_
    show Steps p.tables e below (T2.setTop (mkF m 60 #[.val (.int p0), .val (.int p1), .val (.int p2), .val (.int (1 : Int32)), .val (.ref s_BMP), .unset, .unset] [(.int (7 : Int32)), (.int p1), (.int (own_bnd (p2 &&& (7 : Int32))))])) _
    refine XS.iand X2.here hx rfl (hb hby at_60) rfl ?_
    show Steps p.tables e below (T2.setTop (mkF m 61 #[.val (.int p0), .val (.int p1), .val (.int p2), .val (.int (1 : Int32)), .val (.ref s_BMP), .unset, .unset] [(.int (p1 &&& (7 : Int32))), (.int (own_bnd (p2 &&& (7 : Int32))))])) _
    refine XS.iconst X2.here hx rfl (hb hby at_61) ?_
    show Steps p.tables e below (T2.setTop (mkF m 62 #[.val (.int p0), .val (.int p1), .val (.int p2), .val (.int (1 : Int32)), .val (.ref s_BMP), .unset, .unset] [(.int (3 : Int32)), (.int (p1 &&& (7 : Int32))), (.int (own_bnd (p2 &&& (7 : Int32))))])) _
    refine XS.isub X2.here hx rfl (hb hby at_62) rfl ?_
    show Steps p.tables e below (T2.setTop (mkF m 63 #[.val (.int p0), .val (.int p1), .val (.int p2), .val (.int (1 : Int32)), .val (.ref s_BMP), .unset, .unset] [(.int ((p1 &&& (7 : Int32)) - (3 : Int32))), (.int (own_bnd (p2 &&& (7 : Int32))))])) _
    refine XS.iadd X2.here hx rfl (hb hby at_63) rfl ?_
    show Steps p.tables e below (T2.setTop (mkF m 64 #[.val (.int p0), .val (.int p1), .val (.int p2), .val (.int (1 : Int32)), .val (.ref s_BMP), .unset, .unset] [(.int ((own_bnd (p2 &&& (7 : Int32))) + ((p1 &&& (7 : Int32)) - (3 : Int32))))])) _
    refine XS.istore X2.here hx rfl (hb hby at_64) rfl (l' := #[.val (.int p0), .val (.int p1), .val (.int p2), .val (.int (1 : Int32)), .val (.ref s_BMP), .val (.int ((own_bnd (p2 &&& (7 : Int32))) + ((p1 &&& (7 : Int32)) - (3 : Int32)))), .unset]) rfl ?_
    show Steps p.tables e below (T2.setTop (mkF m 66 #[.val (.int p0), .val (.int p1), .val (.int p2), .val (.int (1 : Int32)), .val (.ref s_BMP), .val (.int ((own_bnd (p2 &&& (7 : Int32))) + ((p1 &&& (7 : Int32)) - (3 : Int32)))), .unset] [])) _
    refine XS.iloadN X2.here hx rfl (hb hby at_66) rfl ?_
    show Steps p.tables e below (T2.setTop (mkF m 67 #[.val (.int p0), .val (.int p1), .val (.int p2), .val (.int (1 : Int32)), .val (.ref s_BMP), .val (.int ((own_bnd (p2 &&& (7 : Int32))) + ((p1 &&& (7 : Int32)) - (3 : Int32)))), .unset] [(.int (1 : Int32))])) _
    refine XS.ifYes X2.here hx rfl (pc0 := 67) (pc' := 92) rfl (hb hby at_67) rfl (by decide +kernel) (by decide) (by decide) ?_
    show Steps p.tables e below (T2.setTop (mkF m 92 #[.val (.int p0), .val (.int p1), .val (.int p2), .val (.int (1 : Int32)), .val (.ref s_BMP), .val (.int ((own_bnd (p2 &&& (7 : Int32))) + ((p1 &&& (7 : Int32)) - (3 : Int32)))), .unset] [])) _
    refine XS.iloadN X2.here hx rfl (hb hby at_92) rfl ?_
    show Steps p.tables e below (T2.setTop (mkF m 93 #[.val (.int p0), .val (.int p1), .val (.int p2), .val (.int (1 : Int32)), .val (.ref s_BMP), .val (.int ((own_bnd (p2 &&& (7 : Int32))) + ((p1 &&& (7 : Int32)) - (3 : Int32)))), .unset] [(.int (1 : Int32))])) _
    refine XS.iconst X2.here hx rfl (hb hby at_93) ?_
    show Steps p.tables e below (T2.setTop (mkF m 94 #[.val (.int p0), .val (.int p1), .val (.int p2), .val (.int (1 : Int32)), .val (.ref s_BMP), .val (.int ((own_bnd (p2 &&& (7 : Int32))) + ((p1 &&& (7 : Int32)) - (3 : Int32)))), .unset] [(.int (1 : Int32)), (.int (1 : Int32))])) _
    refine XS.icmpNo X2.here hx rfl (hb hby at_94) rfl (by decide +kernel) ?_
    show Steps p.tables e below (T2.setTop (mkF m 97 #[.val (.int p0), .val (.int p1), .val (.int p2), .val (.int (1 : Int32)), .val (.ref s_BMP), .val (.int ((own_bnd (p2 &&& (7 : Int32))) + ((p1 &&& (7 : Int32)) - (3 : Int32)))), .unset] [])) _
    refine XS.iload X2.here hx rfl (hb hby at_97) rfl ?_
    show Steps p.tables e below (T2.setTop (mkF m 99 #[.val (.int p0), .val (.int p1), .val (.int p2), .val (.int (1 : Int32)), .val (.ref s_BMP), .val (.int ((own_bnd (p2 &&& (7 : Int32))) + ((p1 &&& (7 : Int32)) - (3 : Int32)))), .unset] [(.int ((own_bnd (p2 &&& (7 : Int32))) + ((p1 &&& (7 : Int32)) - (3 : Int32))))])) _
    refine XS.ifYes X2.here hx rfl (pc0 := 99) (pc' := 109) rfl (hb hby at_99) rfl hc_lt_0 (by decide) (by decide) ?_
    show Steps p.tables e below (T2.setTop (mkF m 109 #[.val (.int p0), .val (.int p1), .val (.int p2), .val (.int (1 : Int32)), .val (.ref s_BMP), .val (.int ((own_bnd (p2 &&& (7 : Int32))) + ((p1 &&& (7 : Int32)) - (3 : Int32)))), .unset] [])) _
    refine XS.iload X2.here hx rfl (hb hby at_109) rfl ?_
    show Steps p.tables e below (T2.setTop (mkF m 111 #[.val (.int p0), .val (.int p1), .val (.int p2), .val (.int (1 : Int32)), .val (.ref s_BMP), .val (.int ((own_bnd (p2 &&& (7 : Int32))) + ((p1 &&& (7 : Int32)) - (3 : Int32)))), .unset] [(.int ((own_bnd (p2 &&& (7 : Int32))) + ((p1 &&& (7 : Int32)) - (3 : Int32))))])) _
    refine X2.ldcInt hx hown (mvT hZ (hw _ (List.mem_of_getElem? (i := 19) rfl))) (g := (mkF m 111 #[.val (.int p0), .val (.int p1), .val (.int p2), .val (.int (1 : Int32)), .val (.ref s_BMP), .val (.int ((own_bnd (p2 &&& (7 : Int32))) + ((p1 &&& (7 : Int32)) - (3 : Int32)))), .unset] [(.int ((own_bnd (p2 &&& (7 : Int32))) + ((p1 &&& (7 : Int32)) - (3 : Int32))))])) rfl (hb hby at_111) _ ?_
    show Steps p.tables e below (T2.setTop (mkF m 113 #[.val (.int p0), .val (.int p1), .val (.int p2), .val (.int (1 : Int32)), .val (.ref s_BMP), .val (.int ((own_bnd (p2 &&& (7 : Int32))) + ((p1 &&& (7 : Int32)) - (3 : Int32)))), .unset] [(.int (57344 : Int32)), (.int ((own_bnd (p2 &&& (7 : Int32))) + ((p1 &&& (7 : Int32)) - (3 : Int32))))])) _
    refine XS.icmpYes X2.here hx rfl (pc0 := 113) (pc' := 127) rfl (hb hby at_113) rfl hc_lt_57344 (by decide) (by decide) ?_
    show Steps p.tables e below (T2.setTop (mkF m 127 #[.val (.int p0), .val (.int p1), .val (.int p2), .val (.int (1 : Int32)), .val (.ref s_BMP), .val (.int ((own_bnd (p2 &&& (7 : Int32))) + ((p1 &&& (7 : Int32)) - (3 : Int32)))), .unset] [])) _
    refine XS.iconst X2.here hx rfl (hb hby at_127) ?_
    show Steps p.tables e below (T2.setTop (mkF m 128 #[.val (.int p0), .val (.int p1), .val (.int p2), .val (.int (1 : Int32)), .val (.ref s_BMP), .val (.int ((own_bnd (p2 &&& (7 : Int32))) + ((p1 &&& (7 : Int32)) - (3 : Int32)))), .unset] [(.int (0 : Int32))])) _
    refine XS.istore X2.here hx rfl (hb hby at_128) rfl (l' := #[.val (.int p0), .val (.int p1), .val (.int p2), .val (.int (1 : Int32)), .val (.ref s_BMP), .val (.int ((own_bnd (p2 &&& (7 : Int32))) + ((p1 &&& (7 : Int32)) - (3 : Int32)))), .val (.int (0 : Int32))]) rfl ?_
    show Steps p.tables e below (T2.setTop (mkF m 130 #[.val (.int p0), .val (.int p1), .val (.int p2), .val (.int (1 : Int32)), .val (.ref s_BMP), .val (.int ((own_bnd (p2 &&& (7 : Int32))) + ((p1 &&& (7 : Int32)) - (3 : Int32)))), .val (.int (0 : Int32))] [])) _
    refine XS.goto X2.here hx rfl (pc0 := 130) (pc' := 166) rfl (hb hby at_130) (by decide) (by decide) ?_
    show Steps p.tables e below (T2.setTop (mkF m 166 #[.val (.int p0), .val (.int p1), .val (.int p2), .val (.int (1 : Int32)), .val (.ref s_BMP), .val (.int ((own_bnd (p2 &&& (7 : Int32))) + ((p1 &&& (7 : Int32)) - (3 : Int32)))), .val (.int (0 : Int32))] [])) _
    refine XS.aload X2.here hx rfl (hb hby at_166) rfl rfl ?_
    show Steps p.tables e below (T2.setTop (mkF m 168 #[.val (.int p0), .val (.int p1), .val (.int p2), .val (.int (1 : Int32)), .val (.ref s_BMP), .val (.int ((own_bnd (p2 &&& (7 : Int32))) + ((p1 &&& (7 : Int32)) - (3 : Int32)))), .val (.int (0 : Int32))] [(.ref s_BMP)])) _
    refine XS.iload X2.here hx rfl (hb hby at_168) rfl ?_
    show Steps p.tables e below (T2.setTop (mkF m 170 #[.val (.int p0), .val (.int p1), .val (.int p2), .val (.int (1 : Int32)), .val (.ref s_BMP), .val (.int ((own_bnd (p2 &&& (7 : Int32))) + ((p1 &&& (7 : Int32)) - (3 : Int32)))), .val (.int (0 : Int32))] [(.int ((own_bnd (p2 &&& (7 : Int32))) + ((p1 &&& (7 : Int32)) - (3 : Int32)))), (.ref s_BMP)])) _
    refine st3.trans ?_
    show Steps p.tables e below (T3.setTop (mkF m 173 #[.val (.int p0), .val (.int p1), .val (.int p2), .val (.int (1 : Int32)), .val (.ref s_BMP), .val (.int ((own_bnd (p2 &&& (7 : Int32))) + ((p1 &&& (7 : Int32)) - (3 : Int32)))), .val (.int (0 : Int32))] [(.int (0 : Int32))])) _
    refine XS.iload X3.here hx rfl (hb hby at_173) rfl ?_
    show Steps p.tables e below (T3.setTop (mkF m 175 #[.val (.int p0), .val (.int p1), .val (.int p2), .val (.int (1 : Int32)), .val (.ref s_BMP), .val (.int ((own_bnd (p2 &&& (7 : Int32))) + ((p1 &&& (7 : Int32)) - (3 : Int32)))), .val (.int (0 : Int32))] [(.int (0 : Int32)), (.int (0 : Int32))])) _
    refine XS.icmpNo X3.here hx rfl (hb hby at_175) rfl (by decide +kernel) ?_
    show Steps p.tables e below (T3.setTop (mkF m 178 #[.val (.int p0), .val (.int p1), .val (.int p2), .val (.int (1 : Int32)), .val (.ref s_BMP), .val (.int ((own_bnd (p2 &&& (7 : Int32))) + ((p1 &&& (7 : Int32)) - (3 : Int32)))), .val (.int (0 : Int32))] [])) _
    refine XS.iconst X3.here hx rfl (hb hby at_178) ?_
    show Steps p.tables e below (T3.setTop (mkF m 179 #[.val (.int p0), .val (.int p1), .val (.int p2), .val (.int (1 : Int32)), .val (.ref s_BMP), .val (.int ((own_bnd (p2 &&& (7 : Int32))) + ((p1 &&& (7 : Int32)) - (3 : Int32)))), .val (.int (0 : Int32))] [(.int (1 : Int32))])) _
    refine XS.goto X3.here hx rfl (pc0 := 179) (pc' := 183) rfl (hb hby at_179) (by decide) (by decide) ?_
    show Steps p.tables e below (T3.setTop (mkF m 183 #[.val (.int p0), .val (.int p1), .val (.int p2), .val (.int (1 : Int32)), .val (.ref s_BMP), .val (.int ((own_bnd (p2 &&& (7 : Int32))) + ((p1 &&& (7 : Int32)) - (3 : Int32)))), .val (.int (0 : Int32))] [(.int (1 : Int32))])) _
    exact retN X3 hx (t := .boolean) Bd.returns (by simp) (hb hby at_183) hr
  · exact ⟨rfl, N3, e3⟩
set_option maxRecDepth 65536 in
set_option maxHeartbeats 40000000 in
theorem r22 (l : Launch) (Z : State) (a0 : Array Value) (hw : ∀ d ∈ tables_1, d.before a0 Z = true) (ws : List Jvm.Cond) (h0 : Heap) (n0 : Nat) (s_IA5 : Addr) (s_BMP : Addr) (s_UTF8 : Addr) (K : Ctx Z h0 s_IA5 s_BMP s_UTF8) (p1 : Int32) (p2 : Int32) (hc_lt_0 : ifCond.holds .lt ((own_bnd (p2 &&& (7 : Int32))) + ((p1 &&& (7 : Int32)) - (3 : Int32))) = false) (hc_gt_65535 : if_icmp.holds .gt ((own_bnd (p2 &&& (7 : Int32))) + ((p1 &&& (7 : Int32)) - (3 : Int32))) (65535 : Int32) = false) (hc_lt_55296 : if_icmp.holds .lt ((own_bnd (p2 &&& (7 : Int32))) + ((p1 &&& (7 : Int32)) - (3 : Int32))) (55296 : Int32) = true) :
    MetFree l (⟨"com/example/plainwire/plainwire/definitions/Repertoire", "holds", "(I)Z"⟩ : MethodName) (head1 (Jvm.Cond.code (⟨"com/example/plainwire/plainwire/definitions/Repertoire", "holds", "(I)Z"⟩ : MethodName) prog_37_method_5_code 2 (some .boolean) :: ws) ({ frames := 0, cells := 0, slots := 0, locals := 0 } : Room)) (fun a U => a = #[(.ref s_BMP), (.int ((own_bnd (p2 &&& (7 : Int32))) + ((p1 &&& (7 : Int32)) - (3 : Int32))))] ∧ Z.Warmed39 U.vm ∧ U.heap = h0) (fun _ _ _ _ _ => True) (fun _ U o U' => ∃ v L, o = .returned v ∧ QV (.int (1 : Int32)) h0 n0 v U'.heap L ∧ FrameEnd U o U' L ({ frames := 0, cells := 0, slots := 0, locals := 0 } : Room).cells ({ frames := 0, cells := 0, slots := 0, locals := 0 } : Room).slots) := by
  obtain ⟨S_IA5, E_IA5, F_IA5_lastCodePoint, S_BMP, E_BMP, F_BMP_lastCodePoint, S_UTF8, E_UTF8, F_UTF8_lastCodePoint⟩ := id K
  refine MetFree.of_bodySF (plainFor_of_name pn1) hisR ?_
  intro p e s m args below meth c s₁ Bd hml0 hP hK
  obtain ⟨rfl, hZ, hh⟩ := hP
  have hx := Bd.exec
  have hby := Bd.bytes
  have hml : c.maxLocals = 2 := hml0
  have hown : s.vm.findClass "com/example/plainwire/plainwire/definitions/Repertoire" = some m.cls := findClass_of_methodNamed Bd.named
  have X0 : Stand p l e ({ frames := 0, cells := 0, slots := 0, locals := 0 } : Room) s m #[(.ref s_BMP), (.int ((own_bnd (p2 &&& (7 : Int32))) + ((p1 &&& (7 : Int32)) - (3 : Int32))))] below meth c s₁ [] 0 0 := Stand.of_body Bd
  have e0 : s₁.heap = h0 := by rw [← hh, Bd.state]; rfl
  have N0 := Fr.nil n0
  have pre0 : ∀ t, Steps p.tables e below (s₁.setTop (mkF m 0 #[.val (.ref s_BMP), .val (.int ((own_bnd (p2 &&& (7 : Int32))) + ((p1 &&& (7 : Int32)) - (3 : Int32))))] [])) t → Steps p.tables e below (s₁.setTop (entryFrame m #[(.ref s_BMP), (.int ((own_bnd (p2 &&& (7 : Int32))) + ((p1 &&& (7 : Int32)) - (3 : Int32))))] 2)) t := fun t k => castTop (by first | (simp [entryFrame, mkF, argsToLocals, Value.category]; done) | rfl) k
  obtain ⟨T1, X1, e1, st1⟩ := getF X0 hx hZ hown (host := "") (Or.inl (hw _ (List.mem_of_getElem? (i := 14) rfl))) Via.refl e0 F_BMP_lastCodePoint (g := (mkF m 6 #[.val (.ref s_BMP), .val (.int ((own_bnd (p2 &&& (7 : Int32))) + ((p1 &&& (7 : Int32)) - (3 : Int32))))] [(.ref s_BMP), (.int ((own_bnd (p2 &&& (7 : Int32))) + ((p1 &&& (7 : Int32)) - (3 : Int32))))])) rfl rfl (hb hby d1_6)
  obtain ⟨fs, hr, hrun, hended, hW, hsame⟩ := X1.leave (v := some (.int (1 : Int32))) (fun h => by rw [Bd.returns] at h; cases h)
  refine ⟨_, _, pre0 _ ?_, hrun, hended, _, _, rfl, ?_, ⟨_, rfl⟩, hW, hsame.mono (by decide) (by decide)⟩
  · show Steps p.tables e below (s₁.setTop (mkF m 0 #[.val (.ref s_BMP), .val (.int ((own_bnd (p2 &&& (7 : Int32))) + ((p1 &&& (7 : Int32)) - (3 : Int32))))] [])) _
    refine XS.iloadN X0.here hx rfl (hb hby d1_0) rfl ?_
    show Steps p.tables e below (s₁.setTop (mkF m 1 #[.val (.ref s_BMP), .val (.int ((own_bnd (p2 &&& (7 : Int32))) + ((p1 &&& (7 : Int32)) - (3 : Int32))))] [(.int ((own_bnd (p2 &&& (7 : Int32))) + ((p1 &&& (7 : Int32)) - (3 : Int32))))])) _
    refine XS.ifNo X0.here hx rfl (hb hby d1_1) rfl hc_lt_0 ?_
    show Steps p.tables e below (s₁.setTop (mkF m 4 #[.val (.ref s_BMP), .val (.int ((own_bnd (p2 &&& (7 : Int32))) + ((p1 &&& (7 : Int32)) - (3 : Int32))))] [])) _
    refine XS.iloadN X0.here hx rfl (hb hby d1_4) rfl ?_
    show Steps p.tables e below (s₁.setTop (mkF m 5 #[.val (.ref s_BMP), .val (.int ((own_bnd (p2 &&& (7 : Int32))) + ((p1 &&& (7 : Int32)) - (3 : Int32))))] [(.int ((own_bnd (p2 &&& (7 : Int32))) + ((p1 &&& (7 : Int32)) - (3 : Int32))))])) _
    refine XS.aloadN X0.here hx rfl (hb hby d1_5) rfl rfl ?_
    show Steps p.tables e below (s₁.setTop (mkF m 6 #[.val (.ref s_BMP), .val (.int ((own_bnd (p2 &&& (7 : Int32))) + ((p1 &&& (7 : Int32)) - (3 : Int32))))] [(.ref s_BMP), (.int ((own_bnd (p2 &&& (7 : Int32))) + ((p1 &&& (7 : Int32)) - (3 : Int32))))])) _
    refine st1 _ ?_
    show Steps p.tables e below (T1.setTop (mkF m 9 #[.val (.ref s_BMP), .val (.int ((own_bnd (p2 &&& (7 : Int32))) + ((p1 &&& (7 : Int32)) - (3 : Int32))))] [(.int (65535 : Int32)), (.int ((own_bnd (p2 &&& (7 : Int32))) + ((p1 &&& (7 : Int32)) - (3 : Int32))))])) _
    refine XS.icmpNo X1.here hx rfl (hb hby d1_9) rfl hc_gt_65535 ?_
    show Steps p.tables e below (T1.setTop (mkF m 12 #[.val (.ref s_BMP), .val (.int ((own_bnd (p2 &&& (7 : Int32))) + ((p1 &&& (7 : Int32)) - (3 : Int32))))] [])) _
    refine XS.iloadN X1.here hx rfl (hb hby d1_12) rfl ?_
    show Steps p.tables e below (T1.setTop (mkF m 13 #[.val (.ref s_BMP), .val (.int ((own_bnd (p2 &&& (7 : Int32))) + ((p1 &&& (7 : Int32)) - (3 : Int32))))] [(.int ((own_bnd (p2 &&& (7 : Int32))) + ((p1 &&& (7 : Int32)) - (3 : Int32))))])) _
    refine X1.ldcInt hx hown (mvT hZ (hw _ (List.mem_of_getElem? (i := 21) rfl))) (g := (mkF m 13 #[.val (.ref s_BMP), .val (.int ((own_bnd (p2 &&& (7 : Int32))) + ((p1 &&& (7 : Int32)) - (3 : Int32))))] [(.int ((own_bnd (p2 &&& (7 : Int32))) + ((p1 &&& (7 : Int32)) - (3 : Int32))))])) rfl (hb hby d1_13) _ ?_
    show Steps p.tables e below (T1.setTop (mkF m 15 #[.val (.ref s_BMP), .val (.int ((own_bnd (p2 &&& (7 : Int32))) + ((p1 &&& (7 : Int32)) - (3 : Int32))))] [(.int (55296 : Int32)), (.int ((own_bnd (p2 &&& (7 : Int32))) + ((p1 &&& (7 : Int32)) - (3 : Int32))))])) _
    refine XS.icmpYes X1.here hx rfl (pc0 := 15) (pc' := 24) rfl (hb hby d1_15) rfl hc_lt_55296 (by decide) (by decide) ?_
    show Steps p.tables e below (T1.setTop (mkF m 24 #[.val (.ref s_BMP), .val (.int ((own_bnd (p2 &&& (7 : Int32))) + ((p1 &&& (7 : Int32)) - (3 : Int32))))] [])) _
    refine XS.iconst X1.here hx rfl (hb hby d1_24) ?_
    show Steps p.tables e below (T1.setTop (mkF m 25 #[.val (.ref s_BMP), .val (.int ((own_bnd (p2 &&& (7 : Int32))) + ((p1 &&& (7 : Int32)) - (3 : Int32))))] [(.int (1 : Int32))])) _
    refine XS.goto X1.here hx rfl (pc0 := 25) (pc' := 29) rfl (hb hby d1_25) (by decide) (by decide) ?_
    show Steps p.tables e below (T1.setTop (mkF m 29 #[.val (.ref s_BMP), .val (.int ((own_bnd (p2 &&& (7 : Int32))) + ((p1 &&& (7 : Int32)) - (3 : Int32))))] [(.int (1 : Int32))])) _
    exact retN X1 hx (t := .boolean) Bd.returns (by simp) (hb hby d1_29) hr
  · exact ⟨rfl, N0, e1⟩
set_option maxRecDepth 65536 in
set_option maxHeartbeats 40000000 in
theorem law_k1_0_1 (l : Launch) (Z : State) (a0 : Array Value) (hw : ∀ d ∈ tables_1, d.before a0 Z = true) (ws : List Jvm.Cond) (h0 : Heap) (n0 : Nat) (s_IA5 : Addr) (s_BMP : Addr) (s_UTF8 : Addr) (K : Ctx Z h0 s_IA5 s_BMP s_UTF8) (p0 : Int32) (p1 : Int32) (p2 : Int32) (ha : ((p0 &&& (2147483647 : Int32)) % (3 : Int32)) = (1 : Int32)) (hb1 : (p2 &&& (8 : Int32)) = (0 : Int32)) (hc_lt_0 : ifCond.holds .lt ((own_bnd (p2 &&& (7 : Int32))) + ((p1 &&& (7 : Int32)) - (3 : Int32))) = false) (hc_lt_55296 : if_icmp.holds .lt ((own_bnd (p2 &&& (7 : Int32))) + ((p1 &&& (7 : Int32)) - (3 : Int32))) (55296 : Int32) = true) (hc_gt_65535 : if_icmp.holds .gt ((own_bnd (p2 &&& (7 : Int32))) + ((p1 &&& (7 : Int32)) - (3 : Int32))) (65535 : Int32) = false) :
    MetFree l x (head1 (Jvm.Cond.code x code maxLocals ret :: ws) room_1) (fun a U => a = #[(.int p0), (.int p1), (.int p2)] ∧ Z.Warmed39 U.vm ∧ U.heap = h0) (fun _ _ _ _ _ => True) (fun _ U o U' => ∃ v L, o = .returned v ∧ QV (.int (1 : Int32)) h0 n0 v U'.heap L ∧ FrameEnd U o U' L room_1.cells room_1.slots) := by
  obtain ⟨S_IA5, E_IA5, F_IA5_lastCodePoint, S_BMP, E_BMP, F_BMP_lastCodePoint, S_UTF8, E_UTF8, F_UTF8_lastCodePoint⟩ := id K
  refine MetFree.of_bodySF (plainFor_of_name pn2) hisR ?_
  intro p e s m args below meth c s₁ Bd hml0 hP hK
  obtain ⟨rfl, hZ, hh⟩ := hP
  have hx := Bd.exec
  have hby := Bd.bytes
  have hml : c.maxLocals = 7 := hml0
  have hown : s.vm.findClass "com/example/plainwire/plainwire/definitions/RepertoireHoldsPinLaw" = some m.cls := findClass_of_methodNamed Bd.named
  have X0 : Stand p l e room_1 s m #[(.int p0), (.int p1), (.int p2)] below meth c s₁ [] 0 0 := Stand.of_body Bd
  have e0 : s₁.heap = h0 := by rw [← hh, Bd.state]; rfl
  have N0 := Fr.nil n0
  have pre0 : ∀ t, Steps p.tables e below (s₁.setTop (mkF m 0 #[.val (.int p0), .val (.int p1), .val (.int p2), .unset, .unset, .unset, .unset] [])) t → Steps p.tables e below (s₁.setTop (entryFrame m #[(.int p0), (.int p1), (.int p2)] maxLocals)) t := fun t k => castTop (by first | (simp [entryFrame, mkF, argsToLocals, Value.category, maxLocals]; done) | rfl) k
  obtain ⟨T1, X1, e1, st1⟩ := getS X0 hx hZ hown (host := "") (hw _ (List.mem_of_getElem? (i := 16) rfl)) Via.refl e0 S_BMP (g := (mkF m 24 #[.val (.int p0), .val (.int p1), .val (.int p2), .val (.int (1 : Int32)), .unset, .unset, .unset] [])) rfl (hb hby at_24)
  obtain ⟨_, _, ⟨T2, L2, k2, n2⟩, -, X2, ⟨Lc2, hQ2, l2, y2, z2⟩, st2⟩ := Jvm.LawKit.callS X1 hx (y := (⟨"com/example/plainwire/plainwire/definitions/RepertoireHoldsPinLaw", "boundary", "(I)I"⟩ : MethodName)) hown (mvT hZ (hw _ (List.mem_of_getElem? (i := 4) rfl))) (mvT hZ (hw _ (List.mem_of_getElem? (i := 5) rfl))) (mvT hZ (hw _ (List.mem_of_getElem? (i := 6) rfl))) (mvT hZ (hw _ (List.mem_of_getElem? (i := 7) rfl))) (by decide) (backOf (W := 0) (own_bndK l Z a0 hw [] h0 n0 s_IA5 s_BMP s_UTF8 K (p2 &&& (7 : Int32)) (own_and8 p2)) hZ (hw _ (List.mem_of_getElem? (i := 7) rfl)) (hw _ (List.mem_of_getElem? (i := 6) rfl)) (by decide) (by decide)) (g := (mkF m 54 #[.val (.int p0), .val (.int p1), .val (.int p2), .val (.int (1 : Int32)), .val (.ref s_BMP), .unset, .unset] [(.int (p2 &&& (7 : Int32)))])) rfl (by rw [hml]; rfl) (argsL := [(.int (p2 &&& (7 : Int32)))]) (rest := []) (lenOf pd0 rfl) rfl (by show 2 * 0 + _ ≤ _; exact Nat.le_of_eq rfl) (hb hby at_54) (fun _ _ => ⟨rfl, e1, (by decide : 0 + 0 ≤ _), (by decide : 0 + 0 ≤ _)⟩)
  dsimp only [Pt.U, Pt.locs, Pt.cells, Pt.slots] at X2 l2 y2 z2 st2 hQ2
  subst l2 y2 z2
  obtain ⟨rfl, N2q, e2⟩ := hQ2
  have N2 := Fr.app N0 N2q
  obtain ⟨cq3, kq3, q3a, q3b, q3c⟩ := isOf hZ e2 E_BMP
  obtain ⟨_, _, ⟨T3, L3, k3, n3⟩, -, X3, ⟨Lc3, hQ3, l3, y3, z3⟩, st3⟩ := X2.virtualBack hx (y := (⟨"com/example/plainwire/plainwire/definitions/Repertoire", "holds", "(I)Z"⟩ : MethodName)) (z := (⟨"com/example/plainwire/plainwire/definitions/Repertoire", "holds", "(I)Z"⟩ : MethodName)) hown (mvT hZ (hw _ (List.mem_of_getElem? (i := 9) rfl))) (mvT hZ (hw _ (List.mem_of_getElem? (i := 10) rfl))) (notFace_of_selects (args := #[]) (mvT hZ (hw _ (List.mem_of_getElem? (i := 12) rfl)))) (mvT hZ (hw _ (List.mem_of_getElem? (i := 12) rfl))) (mvT hZ (hw _ (List.mem_of_getElem? (i := 11) rfl))) (by decide) (backOf (W := 0) (r22 l Z a0 hw [] h0 n0 s_IA5 s_BMP s_UTF8 K p1 p2 hc_lt_0 hc_gt_65535 hc_lt_55296) hZ (hw _ (List.mem_of_getElem? (i := 13) rfl)) (hw _ (List.mem_of_getElem? (i := 2) rfl)) (by decide) (by decide)) q3a q3c (g := (mkF m 170 #[.val (.int p0), .val (.int p1), .val (.int p2), .val (.int (1 : Int32)), .val (.ref s_BMP), .val (.int ((own_bnd (p2 &&& (7 : Int32))) + ((p1 &&& (7 : Int32)) - (3 : Int32)))), .val (.int (1 : Int32))] [(.int ((own_bnd (p2 &&& (7 : Int32))) + ((p1 &&& (7 : Int32)) - (3 : Int32)))), (.ref s_BMP)])) rfl (by rw [hml]; rfl) (Steps.refl _) (argsL := [(.int ((own_bnd (p2 &&& (7 : Int32))) + ((p1 &&& (7 : Int32)) - (3 : Int32))))]) (rest := []) (lenOf pd1 rfl) rfl (by show 2 * 0 + _ ≤ _; exact Nat.le_of_eq rfl) (hb hby at_170) (fun _ _ => ⟨rfl, e2, (by decide : 0 + 0 ≤ _), (by decide : 0 + 0 ≤ _)⟩)
  dsimp only [Pt.U, Pt.locs, Pt.cells, Pt.slots] at X3 l3 y3 z3 st3 hQ3
  subst l3 y3 z3
  obtain ⟨rfl, N3q, e3⟩ := hQ3
  have N3 := Fr.app N2 N3q
  obtain ⟨fs, hr, hrun, hended, hW, hsame⟩ := X3.leave (v := some (.int (1 : Int32))) (fun h => by rw [Bd.returns] at h; cases h)
  refine ⟨_, _, pre0 _ ?_, hrun, hended, _, _, rfl, ?_, ⟨_, rfl⟩, hW, hsame.mono (by decide) (by decide)⟩
  · show Steps p.tables e below (s₁.setTop (mkF m 0 #[.val (.int p0), .val (.int p1), .val (.int p2), .unset, .unset, .unset, .unset] [])) _
    refine XS.iloadN X0.here hx rfl (hb hby at_0) rfl ?_
    show Steps p.tables e below (s₁.setTop (mkF m 1 #[.val (.int p0), .val (.int p1), .val (.int p2), .unset, .unset, .unset, .unset] [(.int p0)])) _
    refine X0.ldcInt hx hown (mvT hZ (hw _ (List.mem_of_getElem? (i := 0) rfl))) (g := (mkF m 1 #[.val (.int p0), .val (.int p1), .val (.int p2), .unset, .unset, .unset, .unset] [(.int p0)])) rfl (hb hby at_1) _ ?_
    show Steps p.tables e below (s₁.setTop (mkF m 3 #[.val (.int p0), .val (.int p1), .val (.int p2), .unset, .unset, .unset, .unset] [(.int (2147483647 : Int32)), (.int p0)])) _
    refine XS.iand X0.here hx rfl (hb hby at_3) rfl ?_
    show Steps p.tables e below (s₁.setTop (mkF m 4 #[.val (.int p0), .val (.int p1), .val (.int p2), .unset, .unset, .unset, .unset] [(.int (p0 &&& (2147483647 : Int32)))])) _
    refine XS.iconst X0.here hx rfl (hb hby at_4) ?_
    show Steps p.tables e below (s₁.setTop (mkF m 5 #[.val (.int p0), .val (.int p1), .val (.int p2), .unset, .unset, .unset, .unset] [(.int (3 : Int32)), (.int (p0 &&& (2147483647 : Int32)))])) _
    refine Jvm.RoadKit.iremM X0 hx rfl (hb hby at_5) rfl (by decide) ?_
    show Steps p.tables e below (s₁.setTop (mkF m 6 #[.val (.int p0), .val (.int p1), .val (.int p2), .unset, .unset, .unset, .unset] [(.int ((p0 &&& (2147483647 : Int32)) % (3 : Int32)))])) _
    rw [ha]
    show Steps p.tables e below (s₁.setTop (mkF m 6 #[.val (.int p0), .val (.int p1), .val (.int p2), .unset, .unset, .unset, .unset] [(.int (1 : Int32))])) _
    refine XS.istoreN X0.here hx rfl (hb hby at_6) rfl (l' := #[.val (.int p0), .val (.int p1), .val (.int p2), .val (.int (1 : Int32)), .unset, .unset, .unset]) rfl ?_
    show Steps p.tables e below (s₁.setTop (mkF m 7 #[.val (.int p0), .val (.int p1), .val (.int p2), .val (.int (1 : Int32)), .unset, .unset, .unset] [])) _
    refine XS.iloadN X0.here hx rfl (hb hby at_7) rfl ?_
    show Steps p.tables e below (s₁.setTop (mkF m 8 #[.val (.int p0), .val (.int p1), .val (.int p2), .val (.int (1 : Int32)), .unset, .unset, .unset] [(.int (1 : Int32))])) _
    refine XS.ifYes X0.here hx rfl (pc0 := 8) (pc' := 19) rfl (hb hby at_8) rfl (by decide +kernel) (by decide) (by decide) ?_
    show Steps p.tables e below (s₁.setTop (mkF m 19 #[.val (.int p0), .val (.int p1), .val (.int p2), .val (.int (1 : Int32)), .unset, .unset, .unset] [])) _
    refine XS.iloadN X0.here hx rfl (hb hby at_19) rfl ?_
    show Steps p.tables e below (s₁.setTop (mkF m 20 #[.val (.int p0), .val (.int p1), .val (.int p2), .val (.int (1 : Int32)), .unset, .unset, .unset] [(.int (1 : Int32))])) _
    refine XS.iconst X0.here hx rfl (hb hby at_20) ?_
    show Steps p.tables e below (s₁.setTop (mkF m 21 #[.val (.int p0), .val (.int p1), .val (.int p2), .val (.int (1 : Int32)), .unset, .unset, .unset] [(.int (1 : Int32)), (.int (1 : Int32))])) _
    refine XS.icmpNo X0.here hx rfl (hb hby at_21) rfl (by decide +kernel) ?_
    show Steps p.tables e below (s₁.setTop (mkF m 24 #[.val (.int p0), .val (.int p1), .val (.int p2), .val (.int (1 : Int32)), .unset, .unset, .unset] [])) _
    refine st1 _ ?_
    show Steps p.tables e below (T1.setTop (mkF m 27 #[.val (.int p0), .val (.int p1), .val (.int p2), .val (.int (1 : Int32)), .unset, .unset, .unset] [(.ref s_BMP)])) _
    refine XS.astore X1.here hx rfl (hb hby at_27) rfl rfl (l' := #[.val (.int p0), .val (.int p1), .val (.int p2), .val (.int (1 : Int32)), .val (.ref s_BMP), .unset, .unset]) rfl ?_
    show Steps p.tables e below (T1.setTop (mkF m 29 #[.val (.int p0), .val (.int p1), .val (.int p2), .val (.int (1 : Int32)), .val (.ref s_BMP), .unset, .unset] [])) _
    refine XS.goto X1.here hx rfl (pc0 := 29) (pc' := 37) rfl (hb hby at_29) (by decide) (by decide) ?_
    show Steps p.tables e below (T1.setTop (mkF m 37 #[.val (.int p0), .val (.int p1), .val (.int p2), .val (.int (1 : Int32)), .val (.ref s_BMP), .unset, .unset] [])) _
    refine XS.iloadN X1.here hx rfl (hb hby at_37) rfl ?_
    show Steps p.tables e below (T1.setTop (mkF m 38 #[.val (.int p0), .val (.int p1), .val (.int p2), .val (.int (1 : Int32)), .val (.ref s_BMP), .unset, .unset] [(.int p2)])) _
    refine XS.bipush X1.here hx rfl (hb hby at_38) ?_
    show Steps p.tables e below (T1.setTop (mkF m 40 #[.val (.int p0), .val (.int p1), .val (.int p2), .val (.int (1 : Int32)), .val (.ref s_BMP), .unset, .unset] [(.int (8 : Int32)), (.int p2)])) _
    refine XS.iand X1.here hx rfl (hb hby at_40) rfl ?_
    show Steps p.tables e below (T1.setTop (mkF m 41 #[.val (.int p0), .val (.int p1), .val (.int p2), .val (.int (1 : Int32)), .val (.ref s_BMP), .unset, .unset] [(.int (p2 &&& (8 : Int32)))])) _
    rw [hb1]
    show Steps p.tables e below (T1.setTop (mkF m 41 #[.val (.int p0), .val (.int p1), .val (.int p2), .val (.int (1 : Int32)), .val (.ref s_BMP), .unset, .unset] [(.int (0 : Int32))])) _
    refine XS.ifYes X1.here hx rfl (pc0 := 41) (pc' := 50) rfl (hb hby at_41) rfl (by decide +kernel) (by decide) (by decide) ?_
    show Steps p.tables e below (T1.setTop (mkF m 50 #[.val (.int p0), .val (.int p1), .val (.int p2), .val (.int (1 : Int32)), .val (.ref s_BMP), .unset, .unset] [])) _
    refine XS.iloadN X1.here hx rfl (hb hby at_50) rfl ?_
    show Steps p.tables e below (T1.setTop (mkF m 51 #[.val (.int p0), .val (.int p1), .val (.int p2), .val (.int (1 : Int32)), .val (.ref s_BMP), .unset, .unset] [(.int p2)])) _
    refine XS.bipush X1.here hx rfl (hb hby at_51) ?_
    show Steps p.tables e below (T1.setTop (mkF m 53 #[.val (.int p0), .val (.int p1), .val (.int p2), .val (.int (1 : Int32)), .val (.ref s_BMP), .unset, .unset] [(.int (7 : Int32)), (.int p2)])) _
    refine XS.iand X1.here hx rfl (hb hby at_53) rfl ?_
    show Steps p.tables e below (T1.setTop (mkF m 54 #[.val (.int p0), .val (.int p1), .val (.int p2), .val (.int (1 : Int32)), .val (.ref s_BMP), .unset, .unset] [(.int (p2 &&& (7 : Int32)))])) _
    refine st2 _ ?_
    show Steps p.tables e below (T2.setTop (mkF m 57 #[.val (.int p0), .val (.int p1), .val (.int p2), .val (.int (1 : Int32)), .val (.ref s_BMP), .unset, .unset] [(.int (own_bnd (p2 &&& (7 : Int32))))])) _
    refine XS.iloadN X2.here hx rfl (hb hby at_57) rfl ?_
    show Steps p.tables e below (T2.setTop (mkF m 58 #[.val (.int p0), .val (.int p1), .val (.int p2), .val (.int (1 : Int32)), .val (.ref s_BMP), .unset, .unset] [(.int p1), (.int (own_bnd (p2 &&& (7 : Int32))))])) _
    refine XS.bipush X2.here hx rfl (hb hby at_58) ?_
    show Steps p.tables e below (T2.setTop (mkF m 60 #[.val (.int p0), .val (.int p1), .val (.int p2), .val (.int (1 : Int32)), .val (.ref s_BMP), .unset, .unset] [(.int (7 : Int32)), (.int p1), (.int (own_bnd (p2 &&& (7 : Int32))))])) _
    refine XS.iand X2.here hx rfl (hb hby at_60) rfl ?_
    show Steps p.tables e below (T2.setTop (mkF m 61 #[.val (.int p0), .val (.int p1), .val (.int p2), .val (.int (1 : Int32)), .val (.ref s_BMP), .unset, .unset] [(.int (p1 &&& (7 : Int32))), (.int (own_bnd (p2 &&& (7 : Int32))))])) _
    refine XS.iconst X2.here hx rfl (hb hby at_61) ?_
    show Steps p.tables e below (T2.setTop (mkF m 62 #[.val (.int p0), .val (.int p1), .val (.int p2), .val (.int (1 : Int32)), .val (.ref s_BMP), .unset, .unset] [(.int (3 : Int32)), (.int (p1 &&& (7 : Int32))), (.int (own_bnd (p2 &&& (7 : Int32))))])) _
    refine XS.isub X2.here hx rfl (hb hby at_62) rfl ?_
    show Steps p.tables e below (T2.setTop (mkF m 63 #[.val (.int p0), .val (.int p1), .val (.int p2), .val (.int (1 : Int32)), .val (.ref s_BMP), .unset, .unset] [(.int ((p1 &&& (7 : Int32)) - (3 : Int32))), (.int (own_bnd (p2 &&& (7 : Int32))))])) _
    refine XS.iadd X2.here hx rfl (hb hby at_63) rfl ?_
    show Steps p.tables e below (T2.setTop (mkF m 64 #[.val (.int p0), .val (.int p1), .val (.int p2), .val (.int (1 : Int32)), .val (.ref s_BMP), .unset, .unset] [(.int ((own_bnd (p2 &&& (7 : Int32))) + ((p1 &&& (7 : Int32)) - (3 : Int32))))])) _
    refine XS.istore X2.here hx rfl (hb hby at_64) rfl (l' := #[.val (.int p0), .val (.int p1), .val (.int p2), .val (.int (1 : Int32)), .val (.ref s_BMP), .val (.int ((own_bnd (p2 &&& (7 : Int32))) + ((p1 &&& (7 : Int32)) - (3 : Int32)))), .unset]) rfl ?_
    show Steps p.tables e below (T2.setTop (mkF m 66 #[.val (.int p0), .val (.int p1), .val (.int p2), .val (.int (1 : Int32)), .val (.ref s_BMP), .val (.int ((own_bnd (p2 &&& (7 : Int32))) + ((p1 &&& (7 : Int32)) - (3 : Int32)))), .unset] [])) _
    refine XS.iloadN X2.here hx rfl (hb hby at_66) rfl ?_
    show Steps p.tables e below (T2.setTop (mkF m 67 #[.val (.int p0), .val (.int p1), .val (.int p2), .val (.int (1 : Int32)), .val (.ref s_BMP), .val (.int ((own_bnd (p2 &&& (7 : Int32))) + ((p1 &&& (7 : Int32)) - (3 : Int32)))), .unset] [(.int (1 : Int32))])) _
    refine XS.ifYes X2.here hx rfl (pc0 := 67) (pc' := 92) rfl (hb hby at_67) rfl (by decide +kernel) (by decide) (by decide) ?_
    show Steps p.tables e below (T2.setTop (mkF m 92 #[.val (.int p0), .val (.int p1), .val (.int p2), .val (.int (1 : Int32)), .val (.ref s_BMP), .val (.int ((own_bnd (p2 &&& (7 : Int32))) + ((p1 &&& (7 : Int32)) - (3 : Int32)))), .unset] [])) _
    refine XS.iloadN X2.here hx rfl (hb hby at_92) rfl ?_
    show Steps p.tables e below (T2.setTop (mkF m 93 #[.val (.int p0), .val (.int p1), .val (.int p2), .val (.int (1 : Int32)), .val (.ref s_BMP), .val (.int ((own_bnd (p2 &&& (7 : Int32))) + ((p1 &&& (7 : Int32)) - (3 : Int32)))), .unset] [(.int (1 : Int32))])) _
    refine XS.iconst X2.here hx rfl (hb hby at_93) ?_
    show Steps p.tables e below (T2.setTop (mkF m 94 #[.val (.int p0), .val (.int p1), .val (.int p2), .val (.int (1 : Int32)), .val (.ref s_BMP), .val (.int ((own_bnd (p2 &&& (7 : Int32))) + ((p1 &&& (7 : Int32)) - (3 : Int32)))), .unset] [(.int (1 : Int32)), (.int (1 : Int32))])) _
    refine XS.icmpNo X2.here hx rfl (hb hby at_94) rfl (by decide +kernel) ?_
    show Steps p.tables e below (T2.setTop (mkF m 97 #[.val (.int p0), .val (.int p1), .val (.int p2), .val (.int (1 : Int32)), .val (.ref s_BMP), .val (.int ((own_bnd (p2 &&& (7 : Int32))) + ((p1 &&& (7 : Int32)) - (3 : Int32)))), .unset] [])) _
    refine XS.iload X2.here hx rfl (hb hby at_97) rfl ?_
    show Steps p.tables e below (T2.setTop (mkF m 99 #[.val (.int p0), .val (.int p1), .val (.int p2), .val (.int (1 : Int32)), .val (.ref s_BMP), .val (.int ((own_bnd (p2 &&& (7 : Int32))) + ((p1 &&& (7 : Int32)) - (3 : Int32)))), .unset] [(.int ((own_bnd (p2 &&& (7 : Int32))) + ((p1 &&& (7 : Int32)) - (3 : Int32))))])) _
    refine XS.ifNo X2.here hx rfl (hb hby at_99) rfl hc_lt_0 ?_
    show Steps p.tables e below (T2.setTop (mkF m 102 #[.val (.int p0), .val (.int p1), .val (.int p2), .val (.int (1 : Int32)), .val (.ref s_BMP), .val (.int ((own_bnd (p2 &&& (7 : Int32))) + ((p1 &&& (7 : Int32)) - (3 : Int32)))), .unset] [])) _
    refine XS.iload X2.here hx rfl (hb hby at_102) rfl ?_
    show Steps p.tables e below (T2.setTop (mkF m 104 #[.val (.int p0), .val (.int p1), .val (.int p2), .val (.int (1 : Int32)), .val (.ref s_BMP), .val (.int ((own_bnd (p2 &&& (7 : Int32))) + ((p1 &&& (7 : Int32)) - (3 : Int32)))), .unset] [(.int ((own_bnd (p2 &&& (7 : Int32))) + ((p1 &&& (7 : Int32)) - (3 : Int32))))])) _
    refine X2.ldcInt hx hown (mvT hZ (hw _ (List.mem_of_getElem? (i := 8) rfl))) (g := (mkF m 104 #[.val (.int p0), .val (.int p1), .val (.int p2), .val (.int (1 : Int32)), .val (.ref s_BMP), .val (.int ((own_bnd (p2 &&& (7 : Int32))) + ((p1 &&& (7 : Int32)) - (3 : Int32)))), .unset] [(.int ((own_bnd (p2 &&& (7 : Int32))) + ((p1 &&& (7 : Int32)) - (3 : Int32))))])) rfl (hb hby at_104) _ ?_
    show Steps p.tables e below (T2.setTop (mkF m 106 #[.val (.int p0), .val (.int p1), .val (.int p2), .val (.int (1 : Int32)), .val (.ref s_BMP), .val (.int ((own_bnd (p2 &&& (7 : Int32))) + ((p1 &&& (7 : Int32)) - (3 : Int32)))), .unset] [(.int (55296 : Int32)), (.int ((own_bnd (p2 &&& (7 : Int32))) + ((p1 &&& (7 : Int32)) - (3 : Int32))))])) _
    refine XS.icmpYes X2.here hx rfl (pc0 := 106) (pc' := 123) rfl (hb hby at_106) rfl hc_lt_55296 (by decide) (by decide) ?_
    show Steps p.tables e below (T2.setTop (mkF m 123 #[.val (.int p0), .val (.int p1), .val (.int p2), .val (.int (1 : Int32)), .val (.ref s_BMP), .val (.int ((own_bnd (p2 &&& (7 : Int32))) + ((p1 &&& (7 : Int32)) - (3 : Int32)))), .unset] [])) _
    refine XS.iconst X2.here hx rfl (hb hby at_123) ?_
    show Steps p.tables e below (T2.setTop (mkF m 124 #[.val (.int p0), .val (.int p1), .val (.int p2), .val (.int (1 : Int32)), .val (.ref s_BMP), .val (.int ((own_bnd (p2 &&& (7 : Int32))) + ((p1 &&& (7 : Int32)) - (3 : Int32)))), .unset] [(.int (1 : Int32))])) _
    refine XS.goto X2.here hx rfl (pc0 := 124) (pc' := 128) rfl (hb hby at_124) (by decide) (by decide) ?_
    show Steps p.tables e below (T2.setTop (mkF m 128 #[.val (.int p0), .val (.int p1), .val (.int p2), .val (.int (1 : Int32)), .val (.ref s_BMP), .val (.int ((own_bnd (p2 &&& (7 : Int32))) + ((p1 &&& (7 : Int32)) - (3 : Int32)))), .unset] [(.int (1 : Int32))])) _
    refine XS.istore X2.here hx rfl (hb hby at_128) rfl (l' := #[.val (.int p0), .val (.int p1), .val (.int p2), .val (.int (1 : Int32)), .val (.ref s_BMP), .val (.int ((own_bnd (p2 &&& (7 : Int32))) + ((p1 &&& (7 : Int32)) - (3 : Int32)))), .val (.int (1 : Int32))]) rfl ?_
    show Steps p.tables e below (T2.setTop (mkF m 130 #[.val (.int p0), .val (.int p1), .val (.int p2), .val (.int (1 : Int32)), .val (.ref s_BMP), .val (.int ((own_bnd (p2 &&& (7 : Int32))) + ((p1 &&& (7 : Int32)) - (3 : Int32)))), .val (.int (1 : Int32))] [])) _
    refine XS.goto X2.here hx rfl (pc0 := 130) (pc' := 166) rfl (hb hby at_130) (by decide) (by decide) ?_
    show Steps p.tables e below (T2.setTop (mkF m 166 #[.val (.int p0), .val (.int p1), .val (.int p2), .val (.int (1 : Int32)), .val (.ref s_BMP), .val (.int ((own_bnd (p2 &&& (7 : Int32))) + ((p1 &&& (7 : Int32)) - (3 : Int32)))), .val (.int (1 : Int32))] [])) _
    refine XS.aload X2.here hx rfl (hb hby at_166) rfl rfl ?_
    show Steps p.tables e below (T2.setTop (mkF m 168 #[.val (.int p0), .val (.int p1), .val (.int p2), .val (.int (1 : Int32)), .val (.ref s_BMP), .val (.int ((own_bnd (p2 &&& (7 : Int32))) + ((p1 &&& (7 : Int32)) - (3 : Int32)))), .val (.int (1 : Int32))] [(.ref s_BMP)])) _
    refine XS.iload X2.here hx rfl (hb hby at_168) rfl ?_
    show Steps p.tables e below (T2.setTop (mkF m 170 #[.val (.int p0), .val (.int p1), .val (.int p2), .val (.int (1 : Int32)), .val (.ref s_BMP), .val (.int ((own_bnd (p2 &&& (7 : Int32))) + ((p1 &&& (7 : Int32)) - (3 : Int32)))), .val (.int (1 : Int32))] [(.int ((own_bnd (p2 &&& (7 : Int32))) + ((p1 &&& (7 : Int32)) - (3 : Int32)))), (.ref s_BMP)])) _
    refine st3.trans ?_
    show Steps p.tables e below (T3.setTop (mkF m 173 #[.val (.int p0), .val (.int p1), .val (.int p2), .val (.int (1 : Int32)), .val (.ref s_BMP), .val (.int ((own_bnd (p2 &&& (7 : Int32))) + ((p1 &&& (7 : Int32)) - (3 : Int32)))), .val (.int (1 : Int32))] [(.int (1 : Int32))])) _
    refine XS.iload X3.here hx rfl (hb hby at_173) rfl ?_
    show Steps p.tables e below (T3.setTop (mkF m 175 #[.val (.int p0), .val (.int p1), .val (.int p2), .val (.int (1 : Int32)), .val (.ref s_BMP), .val (.int ((own_bnd (p2 &&& (7 : Int32))) + ((p1 &&& (7 : Int32)) - (3 : Int32)))), .val (.int (1 : Int32))] [(.int (1 : Int32)), (.int (1 : Int32))])) _
    refine XS.icmpNo X3.here hx rfl (hb hby at_175) rfl (by decide +kernel) ?_
    show Steps p.tables e below (T3.setTop (mkF m 178 #[.val (.int p0), .val (.int p1), .val (.int p2), .val (.int (1 : Int32)), .val (.ref s_BMP), .val (.int ((own_bnd (p2 &&& (7 : Int32))) + ((p1 &&& (7 : Int32)) - (3 : Int32)))), .val (.int (1 : Int32))] [])) _
    refine XS.iconst X3.here hx rfl (hb hby at_178) ?_
    show Steps p.tables e below (T3.setTop (mkF m 179 #[.val (.int p0), .val (.int p1), .val (.int p2), .val (.int (1 : Int32)), .val (.ref s_BMP), .val (.int ((own_bnd (p2 &&& (7 : Int32))) + ((p1 &&& (7 : Int32)) - (3 : Int32)))), .val (.int (1 : Int32))] [(.int (1 : Int32))])) _
    refine XS.goto X3.here hx rfl (pc0 := 179) (pc' := 183) rfl (hb hby at_179) (by decide) (by decide) ?_
    show Steps p.tables e below (T3.setTop (mkF m 183 #[.val (.int p0), .val (.int p1), .val (.int p2), .val (.int (1 : Int32)), .val (.ref s_BMP), .val (.int ((own_bnd (p2 &&& (7 : Int32))) + ((p1 &&& (7 : Int32)) - (3 : Int32)))), .val (.int (1 : Int32))] [(.int (1 : Int32))])) _
    exact retN X3 hx (t := .boolean) Bd.returns (by simp) (hb hby at_183) hr
  · exact ⟨rfl, N3, e3⟩
set_option maxRecDepth 65536 in
set_option maxHeartbeats 40000000 in
theorem r24 (l : Launch) (Z : State) (a0 : Array Value) (hw : ∀ d ∈ tables_1, d.before a0 Z = true) (ws : List Jvm.Cond) (h0 : Heap) (n0 : Nat) (s_IA5 : Addr) (s_BMP : Addr) (s_UTF8 : Addr) (K : Ctx Z h0 s_IA5 s_BMP s_UTF8) (p1 : Int32) (p2 : Int32) (hc_lt_0 : ifCond.holds .lt ((own_bnd (p2 &&& (7 : Int32))) + ((p1 &&& (7 : Int32)) - (3 : Int32))) = false) (hc_gt_65535 : if_icmp.holds .gt ((own_bnd (p2 &&& (7 : Int32))) + ((p1 &&& (7 : Int32)) - (3 : Int32))) (65535 : Int32) = false) (hc_lt_55296 : if_icmp.holds .lt ((own_bnd (p2 &&& (7 : Int32))) + ((p1 &&& (7 : Int32)) - (3 : Int32))) (55296 : Int32) = false) (hc_le_57343 : if_icmp.holds .le ((own_bnd (p2 &&& (7 : Int32))) + ((p1 &&& (7 : Int32)) - (3 : Int32))) (57343 : Int32) = true) :
    MetFree l (⟨"com/example/plainwire/plainwire/definitions/Repertoire", "holds", "(I)Z"⟩ : MethodName) (head1 (Jvm.Cond.code (⟨"com/example/plainwire/plainwire/definitions/Repertoire", "holds", "(I)Z"⟩ : MethodName) prog_37_method_5_code 2 (some .boolean) :: ws) ({ frames := 0, cells := 0, slots := 0, locals := 0 } : Room)) (fun a U => a = #[(.ref s_BMP), (.int ((own_bnd (p2 &&& (7 : Int32))) + ((p1 &&& (7 : Int32)) - (3 : Int32))))] ∧ Z.Warmed39 U.vm ∧ U.heap = h0) (fun _ _ _ _ _ => True) (fun _ U o U' => ∃ v L, o = .returned v ∧ QV (.int (0 : Int32)) h0 n0 v U'.heap L ∧ FrameEnd U o U' L ({ frames := 0, cells := 0, slots := 0, locals := 0 } : Room).cells ({ frames := 0, cells := 0, slots := 0, locals := 0 } : Room).slots) := by
  obtain ⟨S_IA5, E_IA5, F_IA5_lastCodePoint, S_BMP, E_BMP, F_BMP_lastCodePoint, S_UTF8, E_UTF8, F_UTF8_lastCodePoint⟩ := id K
  refine MetFree.of_bodySF (plainFor_of_name pn1) hisR ?_
  intro p e s m args below meth c s₁ Bd hml0 hP hK
  obtain ⟨rfl, hZ, hh⟩ := hP
  have hx := Bd.exec
  have hby := Bd.bytes
  have hml : c.maxLocals = 2 := hml0
  have hown : s.vm.findClass "com/example/plainwire/plainwire/definitions/Repertoire" = some m.cls := findClass_of_methodNamed Bd.named
  have X0 : Stand p l e ({ frames := 0, cells := 0, slots := 0, locals := 0 } : Room) s m #[(.ref s_BMP), (.int ((own_bnd (p2 &&& (7 : Int32))) + ((p1 &&& (7 : Int32)) - (3 : Int32))))] below meth c s₁ [] 0 0 := Stand.of_body Bd
  have e0 : s₁.heap = h0 := by rw [← hh, Bd.state]; rfl
  have N0 := Fr.nil n0
  have pre0 : ∀ t, Steps p.tables e below (s₁.setTop (mkF m 0 #[.val (.ref s_BMP), .val (.int ((own_bnd (p2 &&& (7 : Int32))) + ((p1 &&& (7 : Int32)) - (3 : Int32))))] [])) t → Steps p.tables e below (s₁.setTop (entryFrame m #[(.ref s_BMP), (.int ((own_bnd (p2 &&& (7 : Int32))) + ((p1 &&& (7 : Int32)) - (3 : Int32))))] 2)) t := fun t k => castTop (by first | (simp [entryFrame, mkF, argsToLocals, Value.category]; done) | rfl) k
  obtain ⟨T1, X1, e1, st1⟩ := getF X0 hx hZ hown (host := "") (Or.inl (hw _ (List.mem_of_getElem? (i := 14) rfl))) Via.refl e0 F_BMP_lastCodePoint (g := (mkF m 6 #[.val (.ref s_BMP), .val (.int ((own_bnd (p2 &&& (7 : Int32))) + ((p1 &&& (7 : Int32)) - (3 : Int32))))] [(.ref s_BMP), (.int ((own_bnd (p2 &&& (7 : Int32))) + ((p1 &&& (7 : Int32)) - (3 : Int32))))])) rfl rfl (hb hby d1_6)
  obtain ⟨fs, hr, hrun, hended, hW, hsame⟩ := X1.leave (v := some (.int (0 : Int32))) (fun h => by rw [Bd.returns] at h; cases h)
  refine ⟨_, _, pre0 _ ?_, hrun, hended, _, _, rfl, ?_, ⟨_, rfl⟩, hW, hsame.mono (by decide) (by decide)⟩
  · show Steps p.tables e below (s₁.setTop (mkF m 0 #[.val (.ref s_BMP), .val (.int ((own_bnd (p2 &&& (7 : Int32))) + ((p1 &&& (7 : Int32)) - (3 : Int32))))] [])) _
    refine XS.iloadN X0.here hx rfl (hb hby d1_0) rfl ?_
    show Steps p.tables e below (s₁.setTop (mkF m 1 #[.val (.ref s_BMP), .val (.int ((own_bnd (p2 &&& (7 : Int32))) + ((p1 &&& (7 : Int32)) - (3 : Int32))))] [(.int ((own_bnd (p2 &&& (7 : Int32))) + ((p1 &&& (7 : Int32)) - (3 : Int32))))])) _
    refine XS.ifNo X0.here hx rfl (hb hby d1_1) rfl hc_lt_0 ?_
    show Steps p.tables e below (s₁.setTop (mkF m 4 #[.val (.ref s_BMP), .val (.int ((own_bnd (p2 &&& (7 : Int32))) + ((p1 &&& (7 : Int32)) - (3 : Int32))))] [])) _
    refine XS.iloadN X0.here hx rfl (hb hby d1_4) rfl ?_
    show Steps p.tables e below (s₁.setTop (mkF m 5 #[.val (.ref s_BMP), .val (.int ((own_bnd (p2 &&& (7 : Int32))) + ((p1 &&& (7 : Int32)) - (3 : Int32))))] [(.int ((own_bnd (p2 &&& (7 : Int32))) + ((p1 &&& (7 : Int32)) - (3 : Int32))))])) _
    refine XS.aloadN X0.here hx rfl (hb hby d1_5) rfl rfl ?_
    show Steps p.tables e below (s₁.setTop (mkF m 6 #[.val (.ref s_BMP), .val (.int ((own_bnd (p2 &&& (7 : Int32))) + ((p1 &&& (7 : Int32)) - (3 : Int32))))] [(.ref s_BMP), (.int ((own_bnd (p2 &&& (7 : Int32))) + ((p1 &&& (7 : Int32)) - (3 : Int32))))])) _
    refine st1 _ ?_
    show Steps p.tables e below (T1.setTop (mkF m 9 #[.val (.ref s_BMP), .val (.int ((own_bnd (p2 &&& (7 : Int32))) + ((p1 &&& (7 : Int32)) - (3 : Int32))))] [(.int (65535 : Int32)), (.int ((own_bnd (p2 &&& (7 : Int32))) + ((p1 &&& (7 : Int32)) - (3 : Int32))))])) _
    refine XS.icmpNo X1.here hx rfl (hb hby d1_9) rfl hc_gt_65535 ?_
    show Steps p.tables e below (T1.setTop (mkF m 12 #[.val (.ref s_BMP), .val (.int ((own_bnd (p2 &&& (7 : Int32))) + ((p1 &&& (7 : Int32)) - (3 : Int32))))] [])) _
    refine XS.iloadN X1.here hx rfl (hb hby d1_12) rfl ?_
    show Steps p.tables e below (T1.setTop (mkF m 13 #[.val (.ref s_BMP), .val (.int ((own_bnd (p2 &&& (7 : Int32))) + ((p1 &&& (7 : Int32)) - (3 : Int32))))] [(.int ((own_bnd (p2 &&& (7 : Int32))) + ((p1 &&& (7 : Int32)) - (3 : Int32))))])) _
    refine X1.ldcInt hx hown (mvT hZ (hw _ (List.mem_of_getElem? (i := 21) rfl))) (g := (mkF m 13 #[.val (.ref s_BMP), .val (.int ((own_bnd (p2 &&& (7 : Int32))) + ((p1 &&& (7 : Int32)) - (3 : Int32))))] [(.int ((own_bnd (p2 &&& (7 : Int32))) + ((p1 &&& (7 : Int32)) - (3 : Int32))))])) rfl (hb hby d1_13) _ ?_
    show Steps p.tables e below (T1.setTop (mkF m 15 #[.val (.ref s_BMP), .val (.int ((own_bnd (p2 &&& (7 : Int32))) + ((p1 &&& (7 : Int32)) - (3 : Int32))))] [(.int (55296 : Int32)), (.int ((own_bnd (p2 &&& (7 : Int32))) + ((p1 &&& (7 : Int32)) - (3 : Int32))))])) _
    refine XS.icmpNo X1.here hx rfl (hb hby d1_15) rfl hc_lt_55296 ?_
    show Steps p.tables e below (T1.setTop (mkF m 18 #[.val (.ref s_BMP), .val (.int ((own_bnd (p2 &&& (7 : Int32))) + ((p1 &&& (7 : Int32)) - (3 : Int32))))] [])) _
    refine XS.iloadN X1.here hx rfl (hb hby d1_18) rfl ?_
    show Steps p.tables e below (T1.setTop (mkF m 19 #[.val (.ref s_BMP), .val (.int ((own_bnd (p2 &&& (7 : Int32))) + ((p1 &&& (7 : Int32)) - (3 : Int32))))] [(.int ((own_bnd (p2 &&& (7 : Int32))) + ((p1 &&& (7 : Int32)) - (3 : Int32))))])) _
    refine X1.ldcInt hx hown (mvT hZ (hw _ (List.mem_of_getElem? (i := 22) rfl))) (g := (mkF m 19 #[.val (.ref s_BMP), .val (.int ((own_bnd (p2 &&& (7 : Int32))) + ((p1 &&& (7 : Int32)) - (3 : Int32))))] [(.int ((own_bnd (p2 &&& (7 : Int32))) + ((p1 &&& (7 : Int32)) - (3 : Int32))))])) rfl (hb hby d1_19) _ ?_
    show Steps p.tables e below (T1.setTop (mkF m 21 #[.val (.ref s_BMP), .val (.int ((own_bnd (p2 &&& (7 : Int32))) + ((p1 &&& (7 : Int32)) - (3 : Int32))))] [(.int (57343 : Int32)), (.int ((own_bnd (p2 &&& (7 : Int32))) + ((p1 &&& (7 : Int32)) - (3 : Int32))))])) _
    refine XS.icmpYes X1.here hx rfl (pc0 := 21) (pc' := 28) rfl (hb hby d1_21) rfl hc_le_57343 (by decide) (by decide) ?_
    show Steps p.tables e below (T1.setTop (mkF m 28 #[.val (.ref s_BMP), .val (.int ((own_bnd (p2 &&& (7 : Int32))) + ((p1 &&& (7 : Int32)) - (3 : Int32))))] [])) _
    refine XS.iconst X1.here hx rfl (hb hby d1_28) ?_
    show Steps p.tables e below (T1.setTop (mkF m 29 #[.val (.ref s_BMP), .val (.int ((own_bnd (p2 &&& (7 : Int32))) + ((p1 &&& (7 : Int32)) - (3 : Int32))))] [(.int (0 : Int32))])) _
    exact retN X1 hx (t := .boolean) Bd.returns (by simp) (hb hby d1_29) hr
  · exact ⟨rfl, N0, e1⟩
set_option maxRecDepth 65536 in
set_option maxHeartbeats 40000000 in
theorem law_k1_0_2 (l : Launch) (Z : State) (a0 : Array Value) (hw : ∀ d ∈ tables_1, d.before a0 Z = true) (ws : List Jvm.Cond) (h0 : Heap) (n0 : Nat) (s_IA5 : Addr) (s_BMP : Addr) (s_UTF8 : Addr) (K : Ctx Z h0 s_IA5 s_BMP s_UTF8) (p0 : Int32) (p1 : Int32) (p2 : Int32) (ha : ((p0 &&& (2147483647 : Int32)) % (3 : Int32)) = (1 : Int32)) (hb1 : (p2 &&& (8 : Int32)) = (0 : Int32)) (hc_lt_0 : ifCond.holds .lt ((own_bnd (p2 &&& (7 : Int32))) + ((p1 &&& (7 : Int32)) - (3 : Int32))) = false) (hc_lt_55296 : if_icmp.holds .lt ((own_bnd (p2 &&& (7 : Int32))) + ((p1 &&& (7 : Int32)) - (3 : Int32))) (55296 : Int32) = false) (hc_lt_57344 : if_icmp.holds .lt ((own_bnd (p2 &&& (7 : Int32))) + ((p1 &&& (7 : Int32)) - (3 : Int32))) (57344 : Int32) = true) (hc_gt_65535 : if_icmp.holds .gt ((own_bnd (p2 &&& (7 : Int32))) + ((p1 &&& (7 : Int32)) - (3 : Int32))) (65535 : Int32) = false) (hc_le_57343 : if_icmp.holds .le ((own_bnd (p2 &&& (7 : Int32))) + ((p1 &&& (7 : Int32)) - (3 : Int32))) (57343 : Int32) = true) :
    MetFree l x (head1 (Jvm.Cond.code x code maxLocals ret :: ws) room_1) (fun a U => a = #[(.int p0), (.int p1), (.int p2)] ∧ Z.Warmed39 U.vm ∧ U.heap = h0) (fun _ _ _ _ _ => True) (fun _ U o U' => ∃ v L, o = .returned v ∧ QV (.int (1 : Int32)) h0 n0 v U'.heap L ∧ FrameEnd U o U' L room_1.cells room_1.slots) := by
  obtain ⟨S_IA5, E_IA5, F_IA5_lastCodePoint, S_BMP, E_BMP, F_BMP_lastCodePoint, S_UTF8, E_UTF8, F_UTF8_lastCodePoint⟩ := id K
  refine MetFree.of_bodySF (plainFor_of_name pn2) hisR ?_
  intro p e s m args below meth c s₁ Bd hml0 hP hK
  obtain ⟨rfl, hZ, hh⟩ := hP
  have hx := Bd.exec
  have hby := Bd.bytes
  have hml : c.maxLocals = 7 := hml0
  have hown : s.vm.findClass "com/example/plainwire/plainwire/definitions/RepertoireHoldsPinLaw" = some m.cls := findClass_of_methodNamed Bd.named
  have X0 : Stand p l e room_1 s m #[(.int p0), (.int p1), (.int p2)] below meth c s₁ [] 0 0 := Stand.of_body Bd
  have e0 : s₁.heap = h0 := by rw [← hh, Bd.state]; rfl
  have N0 := Fr.nil n0
  have pre0 : ∀ t, Steps p.tables e below (s₁.setTop (mkF m 0 #[.val (.int p0), .val (.int p1), .val (.int p2), .unset, .unset, .unset, .unset] [])) t → Steps p.tables e below (s₁.setTop (entryFrame m #[(.int p0), (.int p1), (.int p2)] maxLocals)) t := fun t k => castTop (by first | (simp [entryFrame, mkF, argsToLocals, Value.category, maxLocals]; done) | rfl) k
  obtain ⟨T1, X1, e1, st1⟩ := getS X0 hx hZ hown (host := "") (hw _ (List.mem_of_getElem? (i := 16) rfl)) Via.refl e0 S_BMP (g := (mkF m 24 #[.val (.int p0), .val (.int p1), .val (.int p2), .val (.int (1 : Int32)), .unset, .unset, .unset] [])) rfl (hb hby at_24)
  obtain ⟨_, _, ⟨T2, L2, k2, n2⟩, -, X2, ⟨Lc2, hQ2, l2, y2, z2⟩, st2⟩ := Jvm.LawKit.callS X1 hx (y := (⟨"com/example/plainwire/plainwire/definitions/RepertoireHoldsPinLaw", "boundary", "(I)I"⟩ : MethodName)) hown (mvT hZ (hw _ (List.mem_of_getElem? (i := 4) rfl))) (mvT hZ (hw _ (List.mem_of_getElem? (i := 5) rfl))) (mvT hZ (hw _ (List.mem_of_getElem? (i := 6) rfl))) (mvT hZ (hw _ (List.mem_of_getElem? (i := 7) rfl))) (by decide) (backOf (W := 0) (own_bndK l Z a0 hw [] h0 n0 s_IA5 s_BMP s_UTF8 K (p2 &&& (7 : Int32)) (own_and8 p2)) hZ (hw _ (List.mem_of_getElem? (i := 7) rfl)) (hw _ (List.mem_of_getElem? (i := 6) rfl)) (by decide) (by decide)) (g := (mkF m 54 #[.val (.int p0), .val (.int p1), .val (.int p2), .val (.int (1 : Int32)), .val (.ref s_BMP), .unset, .unset] [(.int (p2 &&& (7 : Int32)))])) rfl (by rw [hml]; rfl) (argsL := [(.int (p2 &&& (7 : Int32)))]) (rest := []) (lenOf pd0 rfl) rfl (by show 2 * 0 + _ ≤ _; exact Nat.le_of_eq rfl) (hb hby at_54) (fun _ _ => ⟨rfl, e1, (by decide : 0 + 0 ≤ _), (by decide : 0 + 0 ≤ _)⟩)
  dsimp only [Pt.U, Pt.locs, Pt.cells, Pt.slots] at X2 l2 y2 z2 st2 hQ2
  subst l2 y2 z2
  obtain ⟨rfl, N2q, e2⟩ := hQ2
  have N2 := Fr.app N0 N2q
  obtain ⟨cq3, kq3, q3a, q3b, q3c⟩ := isOf hZ e2 E_BMP
  obtain ⟨_, _, ⟨T3, L3, k3, n3⟩, -, X3, ⟨Lc3, hQ3, l3, y3, z3⟩, st3⟩ := X2.virtualBack hx (y := (⟨"com/example/plainwire/plainwire/definitions/Repertoire", "holds", "(I)Z"⟩ : MethodName)) (z := (⟨"com/example/plainwire/plainwire/definitions/Repertoire", "holds", "(I)Z"⟩ : MethodName)) hown (mvT hZ (hw _ (List.mem_of_getElem? (i := 9) rfl))) (mvT hZ (hw _ (List.mem_of_getElem? (i := 10) rfl))) (notFace_of_selects (args := #[]) (mvT hZ (hw _ (List.mem_of_getElem? (i := 12) rfl)))) (mvT hZ (hw _ (List.mem_of_getElem? (i := 12) rfl))) (mvT hZ (hw _ (List.mem_of_getElem? (i := 11) rfl))) (by decide) (backOf (W := 0) (r24 l Z a0 hw [] h0 n0 s_IA5 s_BMP s_UTF8 K p1 p2 hc_lt_0 hc_gt_65535 hc_lt_55296 hc_le_57343) hZ (hw _ (List.mem_of_getElem? (i := 13) rfl)) (hw _ (List.mem_of_getElem? (i := 2) rfl)) (by decide) (by decide)) q3a q3c (g := (mkF m 170 #[.val (.int p0), .val (.int p1), .val (.int p2), .val (.int (1 : Int32)), .val (.ref s_BMP), .val (.int ((own_bnd (p2 &&& (7 : Int32))) + ((p1 &&& (7 : Int32)) - (3 : Int32)))), .val (.int (0 : Int32))] [(.int ((own_bnd (p2 &&& (7 : Int32))) + ((p1 &&& (7 : Int32)) - (3 : Int32)))), (.ref s_BMP)])) rfl (by rw [hml]; rfl) (Steps.refl _) (argsL := [(.int ((own_bnd (p2 &&& (7 : Int32))) + ((p1 &&& (7 : Int32)) - (3 : Int32))))]) (rest := []) (lenOf pd1 rfl) rfl (by show 2 * 0 + _ ≤ _; exact Nat.le_of_eq rfl) (hb hby at_170) (fun _ _ => ⟨rfl, e2, (by decide : 0 + 0 ≤ _), (by decide : 0 + 0 ≤ _)⟩)
  dsimp only [Pt.U, Pt.locs, Pt.cells, Pt.slots] at X3 l3 y3 z3 st3 hQ3
  subst l3 y3 z3
  obtain ⟨rfl, N3q, e3⟩ := hQ3
  have N3 := Fr.app N2 N3q
  obtain ⟨fs, hr, hrun, hended, hW, hsame⟩ := X3.leave (v := some (.int (1 : Int32))) (fun h => by rw [Bd.returns] at h; cases h)
  refine ⟨_, _, pre0 _ ?_, hrun, hended, _, _, rfl, ?_, ⟨_, rfl⟩, hW, hsame.mono (by decide) (by decide)⟩
  · show Steps p.tables e below (s₁.setTop (mkF m 0 #[.val (.int p0), .val (.int p1), .val (.int p2), .unset, .unset, .unset, .unset] [])) _
    refine XS.iloadN X0.here hx rfl (hb hby at_0) rfl ?_
    show Steps p.tables e below (s₁.setTop (mkF m 1 #[.val (.int p0), .val (.int p1), .val (.int p2), .unset, .unset, .unset, .unset] [(.int p0)])) _
    refine X0.ldcInt hx hown (mvT hZ (hw _ (List.mem_of_getElem? (i := 0) rfl))) (g := (mkF m 1 #[.val (.int p0), .val (.int p1), .val (.int p2), .unset, .unset, .unset, .unset] [(.int p0)])) rfl (hb hby at_1) _ ?_
    show Steps p.tables e below (s₁.setTop (mkF m 3 #[.val (.int p0), .val (.int p1), .val (.int p2), .unset, .unset, .unset, .unset] [(.int (2147483647 : Int32)), (.int p0)])) _
    refine XS.iand X0.here hx rfl (hb hby at_3) rfl ?_
    show Steps p.tables e below (s₁.setTop (mkF m 4 #[.val (.int p0), .val (.int p1), .val (.int p2), .unset, .unset, .unset, .unset] [(.int (p0 &&& (2147483647 : Int32)))])) _
    refine XS.iconst X0.here hx rfl (hb hby at_4) ?_
    show Steps p.tables e below (s₁.setTop (mkF m 5 #[.val (.int p0), .val (.int p1), .val (.int p2), .unset, .unset, .unset, .unset] [(.int (3 : Int32)), (.int (p0 &&& (2147483647 : Int32)))])) _
    refine Jvm.RoadKit.iremM X0 hx rfl (hb hby at_5) rfl (by decide) ?_
    show Steps p.tables e below (s₁.setTop (mkF m 6 #[.val (.int p0), .val (.int p1), .val (.int p2), .unset, .unset, .unset, .unset] [(.int ((p0 &&& (2147483647 : Int32)) % (3 : Int32)))])) _
    rw [ha]
    show Steps p.tables e below (s₁.setTop (mkF m 6 #[.val (.int p0), .val (.int p1), .val (.int p2), .unset, .unset, .unset, .unset] [(.int (1 : Int32))])) _
    refine XS.istoreN X0.here hx rfl (hb hby at_6) rfl (l' := #[.val (.int p0), .val (.int p1), .val (.int p2), .val (.int (1 : Int32)), .unset, .unset, .unset]) rfl ?_
    show Steps p.tables e below (s₁.setTop (mkF m 7 #[.val (.int p0), .val (.int p1), .val (.int p2), .val (.int (1 : Int32)), .unset, .unset, .unset] [])) _
    refine XS.iloadN X0.here hx rfl (hb hby at_7) rfl ?_
    show Steps p.tables e below (s₁.setTop (mkF m 8 #[.val (.int p0), .val (.int p1), .val (.int p2), .val (.int (1 : Int32)), .unset, .unset, .unset] [(.int (1 : Int32))])) _
    refine XS.ifYes X0.here hx rfl (pc0 := 8) (pc' := 19) rfl (hb hby at_8) rfl (by decide +kernel) (by decide) (by decide) ?_
    show Steps p.tables e below (s₁.setTop (mkF m 19 #[.val (.int p0), .val (.int p1), .val (.int p2), .val (.int (1 : Int32)), .unset, .unset, .unset] [])) _
    refine XS.iloadN X0.here hx rfl (hb hby at_19) rfl ?_
    show Steps p.tables e below (s₁.setTop (mkF m 20 #[.val (.int p0), .val (.int p1), .val (.int p2), .val (.int (1 : Int32)), .unset, .unset, .unset] [(.int (1 : Int32))])) _
    refine XS.iconst X0.here hx rfl (hb hby at_20) ?_
    show Steps p.tables e below (s₁.setTop (mkF m 21 #[.val (.int p0), .val (.int p1), .val (.int p2), .val (.int (1 : Int32)), .unset, .unset, .unset] [(.int (1 : Int32)), (.int (1 : Int32))])) _
    refine XS.icmpNo X0.here hx rfl (hb hby at_21) rfl (by decide +kernel) ?_
    show Steps p.tables e below (s₁.setTop (mkF m 24 #[.val (.int p0), .val (.int p1), .val (.int p2), .val (.int (1 : Int32)), .unset, .unset, .unset] [])) _
    refine st1 _ ?_
    show Steps p.tables e below (T1.setTop (mkF m 27 #[.val (.int p0), .val (.int p1), .val (.int p2), .val (.int (1 : Int32)), .unset, .unset, .unset] [(.ref s_BMP)])) _
    refine XS.astore X1.here hx rfl (hb hby at_27) rfl rfl (l' := #[.val (.int p0), .val (.int p1), .val (.int p2), .val (.int (1 : Int32)), .val (.ref s_BMP), .unset, .unset]) rfl ?_
    show Steps p.tables e below (T1.setTop (mkF m 29 #[.val (.int p0), .val (.int p1), .val (.int p2), .val (.int (1 : Int32)), .val (.ref s_BMP), .unset, .unset] [])) _
    refine XS.goto X1.here hx rfl (pc0 := 29) (pc' := 37) rfl (hb hby at_29) (by decide) (by decide) ?_
    show Steps p.tables e below (T1.setTop (mkF m 37 #[.val (.int p0), .val (.int p1), .val (.int p2), .val (.int (1 : Int32)), .val (.ref s_BMP), .unset, .unset] [])) _
    refine XS.iloadN X1.here hx rfl (hb hby at_37) rfl ?_
    show Steps p.tables e below (T1.setTop (mkF m 38 #[.val (.int p0), .val (.int p1), .val (.int p2), .val (.int (1 : Int32)), .val (.ref s_BMP), .unset, .unset] [(.int p2)])) _
    refine XS.bipush X1.here hx rfl (hb hby at_38) ?_
    show Steps p.tables e below (T1.setTop (mkF m 40 #[.val (.int p0), .val (.int p1), .val (.int p2), .val (.int (1 : Int32)), .val (.ref s_BMP), .unset, .unset] [(.int (8 : Int32)), (.int p2)])) _
    refine XS.iand X1.here hx rfl (hb hby at_40) rfl ?_
    show Steps p.tables e below (T1.setTop (mkF m 41 #[.val (.int p0), .val (.int p1), .val (.int p2), .val (.int (1 : Int32)), .val (.ref s_BMP), .unset, .unset] [(.int (p2 &&& (8 : Int32)))])) _
    rw [hb1]
    show Steps p.tables e below (T1.setTop (mkF m 41 #[.val (.int p0), .val (.int p1), .val (.int p2), .val (.int (1 : Int32)), .val (.ref s_BMP), .unset, .unset] [(.int (0 : Int32))])) _
    refine XS.ifYes X1.here hx rfl (pc0 := 41) (pc' := 50) rfl (hb hby at_41) rfl (by decide +kernel) (by decide) (by decide) ?_
    show Steps p.tables e below (T1.setTop (mkF m 50 #[.val (.int p0), .val (.int p1), .val (.int p2), .val (.int (1 : Int32)), .val (.ref s_BMP), .unset, .unset] [])) _
    refine XS.iloadN X1.here hx rfl (hb hby at_50) rfl ?_
    show Steps p.tables e below (T1.setTop (mkF m 51 #[.val (.int p0), .val (.int p1), .val (.int p2), .val (.int (1 : Int32)), .val (.ref s_BMP), .unset, .unset] [(.int p2)])) _
    refine XS.bipush X1.here hx rfl (hb hby at_51) ?_
    show Steps p.tables e below (T1.setTop (mkF m 53 #[.val (.int p0), .val (.int p1), .val (.int p2), .val (.int (1 : Int32)), .val (.ref s_BMP), .unset, .unset] [(.int (7 : Int32)), (.int p2)])) _
    refine XS.iand X1.here hx rfl (hb hby at_53) rfl ?_
    show Steps p.tables e below (T1.setTop (mkF m 54 #[.val (.int p0), .val (.int p1), .val (.int p2), .val (.int (1 : Int32)), .val (.ref s_BMP), .unset, .unset] [(.int (p2 &&& (7 : Int32)))])) _
    refine st2 _ ?_
    show Steps p.tables e below (T2.setTop (mkF m 57 #[.val (.int p0), .val (.int p1), .val (.int p2), .val (.int (1 : Int32)), .val (.ref s_BMP), .unset, .unset] [(.int (own_bnd (p2 &&& (7 : Int32))))])) _
    refine XS.iloadN X2.here hx rfl (hb hby at_57) rfl ?_
    show Steps p.tables e below (T2.setTop (mkF m 58 #[.val (.int p0), .val (.int p1), .val (.int p2), .val (.int (1 : Int32)), .val (.ref s_BMP), .unset, .unset] [(.int p1), (.int (own_bnd (p2 &&& (7 : Int32))))])) _
    refine XS.bipush X2.here hx rfl (hb hby at_58) ?_
    show Steps p.tables e below (T2.setTop (mkF m 60 #[.val (.int p0), .val (.int p1), .val (.int p2), .val (.int (1 : Int32)), .val (.ref s_BMP), .unset, .unset] [(.int (7 : Int32)), (.int p1), (.int (own_bnd (p2 &&& (7 : Int32))))])) _
    refine XS.iand X2.here hx rfl (hb hby at_60) rfl ?_
    show Steps p.tables e below (T2.setTop (mkF m 61 #[.val (.int p0), .val (.int p1), .val (.int p2), .val (.int (1 : Int32)), .val (.ref s_BMP), .unset, .unset] [(.int (p1 &&& (7 : Int32))), (.int (own_bnd (p2 &&& (7 : Int32))))])) _
    refine XS.iconst X2.here hx rfl (hb hby at_61) ?_
    show Steps p.tables e below (T2.setTop (mkF m 62 #[.val (.int p0), .val (.int p1), .val (.int p2), .val (.int (1 : Int32)), .val (.ref s_BMP), .unset, .unset] [(.int (3 : Int32)), (.int (p1 &&& (7 : Int32))), (.int (own_bnd (p2 &&& (7 : Int32))))])) _
    refine XS.isub X2.here hx rfl (hb hby at_62) rfl ?_
    show Steps p.tables e below (T2.setTop (mkF m 63 #[.val (.int p0), .val (.int p1), .val (.int p2), .val (.int (1 : Int32)), .val (.ref s_BMP), .unset, .unset] [(.int ((p1 &&& (7 : Int32)) - (3 : Int32))), (.int (own_bnd (p2 &&& (7 : Int32))))])) _
    refine XS.iadd X2.here hx rfl (hb hby at_63) rfl ?_
    show Steps p.tables e below (T2.setTop (mkF m 64 #[.val (.int p0), .val (.int p1), .val (.int p2), .val (.int (1 : Int32)), .val (.ref s_BMP), .unset, .unset] [(.int ((own_bnd (p2 &&& (7 : Int32))) + ((p1 &&& (7 : Int32)) - (3 : Int32))))])) _
    refine XS.istore X2.here hx rfl (hb hby at_64) rfl (l' := #[.val (.int p0), .val (.int p1), .val (.int p2), .val (.int (1 : Int32)), .val (.ref s_BMP), .val (.int ((own_bnd (p2 &&& (7 : Int32))) + ((p1 &&& (7 : Int32)) - (3 : Int32)))), .unset]) rfl ?_
    show Steps p.tables e below (T2.setTop (mkF m 66 #[.val (.int p0), .val (.int p1), .val (.int p2), .val (.int (1 : Int32)), .val (.ref s_BMP), .val (.int ((own_bnd (p2 &&& (7 : Int32))) + ((p1 &&& (7 : Int32)) - (3 : Int32)))), .unset] [])) _
    refine XS.iloadN X2.here hx rfl (hb hby at_66) rfl ?_
    show Steps p.tables e below (T2.setTop (mkF m 67 #[.val (.int p0), .val (.int p1), .val (.int p2), .val (.int (1 : Int32)), .val (.ref s_BMP), .val (.int ((own_bnd (p2 &&& (7 : Int32))) + ((p1 &&& (7 : Int32)) - (3 : Int32)))), .unset] [(.int (1 : Int32))])) _
    refine XS.ifYes X2.here hx rfl (pc0 := 67) (pc' := 92) rfl (hb hby at_67) rfl (by decide +kernel) (by decide) (by decide) ?_
    show Steps p.tables e below (T2.setTop (mkF m 92 #[.val (.int p0), .val (.int p1), .val (.int p2), .val (.int (1 : Int32)), .val (.ref s_BMP), .val (.int ((own_bnd (p2 &&& (7 : Int32))) + ((p1 &&& (7 : Int32)) - (3 : Int32)))), .unset] [])) _
    refine XS.iloadN X2.here hx rfl (hb hby at_92) rfl ?_
    show Steps p.tables e below (T2.setTop (mkF m 93 #[.val (.int p0), .val (.int p1), .val (.int p2), .val (.int (1 : Int32)), .val (.ref s_BMP), .val (.int ((own_bnd (p2 &&& (7 : Int32))) + ((p1 &&& (7 : Int32)) - (3 : Int32)))), .unset] [(.int (1 : Int32))])) _
    refine XS.iconst X2.here hx rfl (hb hby at_93) ?_
    show Steps p.tables e below (T2.setTop (mkF m 94 #[.val (.int p0), .val (.int p1), .val (.int p2), .val (.int (1 : Int32)), .val (.ref s_BMP), .val (.int ((own_bnd (p2 &&& (7 : Int32))) + ((p1 &&& (7 : Int32)) - (3 : Int32)))), .unset] [(.int (1 : Int32)), (.int (1 : Int32))])) _
    refine XS.icmpNo X2.here hx rfl (hb hby at_94) rfl (by decide +kernel) ?_
    show Steps p.tables e below (T2.setTop (mkF m 97 #[.val (.int p0), .val (.int p1), .val (.int p2), .val (.int (1 : Int32)), .val (.ref s_BMP), .val (.int ((own_bnd (p2 &&& (7 : Int32))) + ((p1 &&& (7 : Int32)) - (3 : Int32)))), .unset] [])) _
    refine XS.iload X2.here hx rfl (hb hby at_97) rfl ?_
    show Steps p.tables e below (T2.setTop (mkF m 99 #[.val (.int p0), .val (.int p1), .val (.int p2), .val (.int (1 : Int32)), .val (.ref s_BMP), .val (.int ((own_bnd (p2 &&& (7 : Int32))) + ((p1 &&& (7 : Int32)) - (3 : Int32)))), .unset] [(.int ((own_bnd (p2 &&& (7 : Int32))) + ((p1 &&& (7 : Int32)) - (3 : Int32))))])) _
    refine XS.ifNo X2.here hx rfl (hb hby at_99) rfl hc_lt_0 ?_
    show Steps p.tables e below (T2.setTop (mkF m 102 #[.val (.int p0), .val (.int p1), .val (.int p2), .val (.int (1 : Int32)), .val (.ref s_BMP), .val (.int ((own_bnd (p2 &&& (7 : Int32))) + ((p1 &&& (7 : Int32)) - (3 : Int32)))), .unset] [])) _
    refine XS.iload X2.here hx rfl (hb hby at_102) rfl ?_
    show Steps p.tables e below (T2.setTop (mkF m 104 #[.val (.int p0), .val (.int p1), .val (.int p2), .val (.int (1 : Int32)), .val (.ref s_BMP), .val (.int ((own_bnd (p2 &&& (7 : Int32))) + ((p1 &&& (7 : Int32)) - (3 : Int32)))), .unset] [(.int ((own_bnd (p2 &&& (7 : Int32))) + ((p1 &&& (7 : Int32)) - (3 : Int32))))])) _
    refine X2.ldcInt hx hown (mvT hZ (hw _ (List.mem_of_getElem? (i := 8) rfl))) (g := (mkF m 104 #[.val (.int p0), .val (.int p1), .val (.int p2), .val (.int (1 : Int32)), .val (.ref s_BMP), .val (.int ((own_bnd (p2 &&& (7 : Int32))) + ((p1 &&& (7 : Int32)) - (3 : Int32)))), .unset] [(.int ((own_bnd (p2 &&& (7 : Int32))) + ((p1 &&& (7 : Int32)) - (3 : Int32))))])) rfl (hb hby at_104) _ ?_
    show Steps p.tables e below (T2.setTop (mkF m 106 #[.val (.int p0), .val (.int p1), .val (.int p2), .val (.int (1 : Int32)), .val (.ref s_BMP), .val (.int ((own_bnd (p2 &&& (7 : Int32))) + ((p1 &&& (7 : Int32)) - (3 : Int32)))), .unset] [(.int (55296 : Int32)), (.int ((own_bnd (p2 &&& (7 : Int32))) + ((p1 &&& (7 : Int32)) - (3 : Int32))))])) _
    refine XS.icmpNo X2.here hx rfl (hb hby at_106) rfl hc_lt_55296 ?_
    show Steps p.tables e below (T2.setTop (mkF m 109 #[.val (.int p0), .val (.int p1), .val (.int p2), .val (.int (1 : Int32)), .val (.ref s_BMP), .val (.int ((own_bnd (p2 &&& (7 : Int32))) + ((p1 &&& (7 : Int32)) - (3 : Int32)))), .unset] [])) _
    refine XS.iload X2.here hx rfl (hb hby at_109) rfl ?_
    show Steps p.tables e below (T2.setTop (mkF m 111 #[.val (.int p0), .val (.int p1), .val (.int p2), .val (.int (1 : Int32)), .val (.ref s_BMP), .val (.int ((own_bnd (p2 &&& (7 : Int32))) + ((p1 &&& (7 : Int32)) - (3 : Int32)))), .unset] [(.int ((own_bnd (p2 &&& (7 : Int32))) + ((p1 &&& (7 : Int32)) - (3 : Int32))))])) _
    refine X2.ldcInt hx hown (mvT hZ (hw _ (List.mem_of_getElem? (i := 19) rfl))) (g := (mkF m 111 #[.val (.int p0), .val (.int p1), .val (.int p2), .val (.int (1 : Int32)), .val (.ref s_BMP), .val (.int ((own_bnd (p2 &&& (7 : Int32))) + ((p1 &&& (7 : Int32)) - (3 : Int32)))), .unset] [(.int ((own_bnd (p2 &&& (7 : Int32))) + ((p1 &&& (7 : Int32)) - (3 : Int32))))])) rfl (hb hby at_111) _ ?_
    show Steps p.tables e below (T2.setTop (mkF m 113 #[.val (.int p0), .val (.int p1), .val (.int p2), .val (.int (1 : Int32)), .val (.ref s_BMP), .val (.int ((own_bnd (p2 &&& (7 : Int32))) + ((p1 &&& (7 : Int32)) - (3 : Int32)))), .unset] [(.int (57344 : Int32)), (.int ((own_bnd (p2 &&& (7 : Int32))) + ((p1 &&& (7 : Int32)) - (3 : Int32))))])) _
    refine XS.icmpYes X2.here hx rfl (pc0 := 113) (pc' := 127) rfl (hb hby at_113) rfl hc_lt_57344 (by decide) (by decide) ?_
    show Steps p.tables e below (T2.setTop (mkF m 127 #[.val (.int p0), .val (.int p1), .val (.int p2), .val (.int (1 : Int32)), .val (.ref s_BMP), .val (.int ((own_bnd (p2 &&& (7 : Int32))) + ((p1 &&& (7 : Int32)) - (3 : Int32)))), .unset] [])) _
    refine XS.iconst X2.here hx rfl (hb hby at_127) ?_
    show Steps p.tables e below (T2.setTop (mkF m 128 #[.val (.int p0), .val (.int p1), .val (.int p2), .val (.int (1 : Int32)), .val (.ref s_BMP), .val (.int ((own_bnd (p2 &&& (7 : Int32))) + ((p1 &&& (7 : Int32)) - (3 : Int32)))), .unset] [(.int (0 : Int32))])) _
    refine XS.istore X2.here hx rfl (hb hby at_128) rfl (l' := #[.val (.int p0), .val (.int p1), .val (.int p2), .val (.int (1 : Int32)), .val (.ref s_BMP), .val (.int ((own_bnd (p2 &&& (7 : Int32))) + ((p1 &&& (7 : Int32)) - (3 : Int32)))), .val (.int (0 : Int32))]) rfl ?_
    show Steps p.tables e below (T2.setTop (mkF m 130 #[.val (.int p0), .val (.int p1), .val (.int p2), .val (.int (1 : Int32)), .val (.ref s_BMP), .val (.int ((own_bnd (p2 &&& (7 : Int32))) + ((p1 &&& (7 : Int32)) - (3 : Int32)))), .val (.int (0 : Int32))] [])) _
    refine XS.goto X2.here hx rfl (pc0 := 130) (pc' := 166) rfl (hb hby at_130) (by decide) (by decide) ?_
    show Steps p.tables e below (T2.setTop (mkF m 166 #[.val (.int p0), .val (.int p1), .val (.int p2), .val (.int (1 : Int32)), .val (.ref s_BMP), .val (.int ((own_bnd (p2 &&& (7 : Int32))) + ((p1 &&& (7 : Int32)) - (3 : Int32)))), .val (.int (0 : Int32))] [])) _
    refine XS.aload X2.here hx rfl (hb hby at_166) rfl rfl ?_
    show Steps p.tables e below (T2.setTop (mkF m 168 #[.val (.int p0), .val (.int p1), .val (.int p2), .val (.int (1 : Int32)), .val (.ref s_BMP), .val (.int ((own_bnd (p2 &&& (7 : Int32))) + ((p1 &&& (7 : Int32)) - (3 : Int32)))), .val (.int (0 : Int32))] [(.ref s_BMP)])) _
    refine XS.iload X2.here hx rfl (hb hby at_168) rfl ?_
    show Steps p.tables e below (T2.setTop (mkF m 170 #[.val (.int p0), .val (.int p1), .val (.int p2), .val (.int (1 : Int32)), .val (.ref s_BMP), .val (.int ((own_bnd (p2 &&& (7 : Int32))) + ((p1 &&& (7 : Int32)) - (3 : Int32)))), .val (.int (0 : Int32))] [(.int ((own_bnd (p2 &&& (7 : Int32))) + ((p1 &&& (7 : Int32)) - (3 : Int32)))), (.ref s_BMP)])) _
    refine st3.trans ?_
    show Steps p.tables e below (T3.setTop (mkF m 173 #[.val (.int p0), .val (.int p1), .val (.int p2), .val (.int (1 : Int32)), .val (.ref s_BMP), .val (.int ((own_bnd (p2 &&& (7 : Int32))) + ((p1 &&& (7 : Int32)) - (3 : Int32)))), .val (.int (0 : Int32))] [(.int (0 : Int32))])) _
    refine XS.iload X3.here hx rfl (hb hby at_173) rfl ?_
    show Steps p.tables e below (T3.setTop (mkF m 175 #[.val (.int p0), .val (.int p1), .val (.int p2), .val (.int (1 : Int32)), .val (.ref s_BMP), .val (.int ((own_bnd (p2 &&& (7 : Int32))) + ((p1 &&& (7 : Int32)) - (3 : Int32)))), .val (.int (0 : Int32))] [(.int (0 : Int32)), (.int (0 : Int32))])) _
    refine XS.icmpNo X3.here hx rfl (hb hby at_175) rfl (by decide +kernel) ?_
    show Steps p.tables e below (T3.setTop (mkF m 178 #[.val (.int p0), .val (.int p1), .val (.int p2), .val (.int (1 : Int32)), .val (.ref s_BMP), .val (.int ((own_bnd (p2 &&& (7 : Int32))) + ((p1 &&& (7 : Int32)) - (3 : Int32)))), .val (.int (0 : Int32))] [])) _
    refine XS.iconst X3.here hx rfl (hb hby at_178) ?_
    show Steps p.tables e below (T3.setTop (mkF m 179 #[.val (.int p0), .val (.int p1), .val (.int p2), .val (.int (1 : Int32)), .val (.ref s_BMP), .val (.int ((own_bnd (p2 &&& (7 : Int32))) + ((p1 &&& (7 : Int32)) - (3 : Int32)))), .val (.int (0 : Int32))] [(.int (1 : Int32))])) _
    refine XS.goto X3.here hx rfl (pc0 := 179) (pc' := 183) rfl (hb hby at_179) (by decide) (by decide) ?_
    show Steps p.tables e below (T3.setTop (mkF m 183 #[.val (.int p0), .val (.int p1), .val (.int p2), .val (.int (1 : Int32)), .val (.ref s_BMP), .val (.int ((own_bnd (p2 &&& (7 : Int32))) + ((p1 &&& (7 : Int32)) - (3 : Int32)))), .val (.int (0 : Int32))] [(.int (1 : Int32))])) _
    exact retN X3 hx (t := .boolean) Bd.returns (by simp) (hb hby at_183) hr
  · exact ⟨rfl, N3, e3⟩
set_option maxRecDepth 65536 in
set_option maxHeartbeats 40000000 in
theorem r26 (l : Launch) (Z : State) (a0 : Array Value) (hw : ∀ d ∈ tables_1, d.before a0 Z = true) (ws : List Jvm.Cond) (h0 : Heap) (n0 : Nat) (s_IA5 : Addr) (s_BMP : Addr) (s_UTF8 : Addr) (K : Ctx Z h0 s_IA5 s_BMP s_UTF8) (p1 : Int32) (p2 : Int32) (hc_lt_0 : ifCond.holds .lt ((own_bnd (p2 &&& (7 : Int32))) + ((p1 &&& (7 : Int32)) - (3 : Int32))) = false) (hc_gt_65535 : if_icmp.holds .gt ((own_bnd (p2 &&& (7 : Int32))) + ((p1 &&& (7 : Int32)) - (3 : Int32))) (65535 : Int32) = false) (hc_lt_55296 : if_icmp.holds .lt ((own_bnd (p2 &&& (7 : Int32))) + ((p1 &&& (7 : Int32)) - (3 : Int32))) (55296 : Int32) = false) (hc_le_57343 : if_icmp.holds .le ((own_bnd (p2 &&& (7 : Int32))) + ((p1 &&& (7 : Int32)) - (3 : Int32))) (57343 : Int32) = false) :
    MetFree l (⟨"com/example/plainwire/plainwire/definitions/Repertoire", "holds", "(I)Z"⟩ : MethodName) (head1 (Jvm.Cond.code (⟨"com/example/plainwire/plainwire/definitions/Repertoire", "holds", "(I)Z"⟩ : MethodName) prog_37_method_5_code 2 (some .boolean) :: ws) ({ frames := 0, cells := 0, slots := 0, locals := 0 } : Room)) (fun a U => a = #[(.ref s_BMP), (.int ((own_bnd (p2 &&& (7 : Int32))) + ((p1 &&& (7 : Int32)) - (3 : Int32))))] ∧ Z.Warmed39 U.vm ∧ U.heap = h0) (fun _ _ _ _ _ => True) (fun _ U o U' => ∃ v L, o = .returned v ∧ QV (.int (1 : Int32)) h0 n0 v U'.heap L ∧ FrameEnd U o U' L ({ frames := 0, cells := 0, slots := 0, locals := 0 } : Room).cells ({ frames := 0, cells := 0, slots := 0, locals := 0 } : Room).slots) := by
  obtain ⟨S_IA5, E_IA5, F_IA5_lastCodePoint, S_BMP, E_BMP, F_BMP_lastCodePoint, S_UTF8, E_UTF8, F_UTF8_lastCodePoint⟩ := id K
  refine MetFree.of_bodySF (plainFor_of_name pn1) hisR ?_
  intro p e s m args below meth c s₁ Bd hml0 hP hK
  obtain ⟨rfl, hZ, hh⟩ := hP
  have hx := Bd.exec
  have hby := Bd.bytes
  have hml : c.maxLocals = 2 := hml0
  have hown : s.vm.findClass "com/example/plainwire/plainwire/definitions/Repertoire" = some m.cls := findClass_of_methodNamed Bd.named
  have X0 : Stand p l e ({ frames := 0, cells := 0, slots := 0, locals := 0 } : Room) s m #[(.ref s_BMP), (.int ((own_bnd (p2 &&& (7 : Int32))) + ((p1 &&& (7 : Int32)) - (3 : Int32))))] below meth c s₁ [] 0 0 := Stand.of_body Bd
  have e0 : s₁.heap = h0 := by rw [← hh, Bd.state]; rfl
  have N0 := Fr.nil n0
  have pre0 : ∀ t, Steps p.tables e below (s₁.setTop (mkF m 0 #[.val (.ref s_BMP), .val (.int ((own_bnd (p2 &&& (7 : Int32))) + ((p1 &&& (7 : Int32)) - (3 : Int32))))] [])) t → Steps p.tables e below (s₁.setTop (entryFrame m #[(.ref s_BMP), (.int ((own_bnd (p2 &&& (7 : Int32))) + ((p1 &&& (7 : Int32)) - (3 : Int32))))] 2)) t := fun t k => castTop (by first | (simp [entryFrame, mkF, argsToLocals, Value.category]; done) | rfl) k
  obtain ⟨T1, X1, e1, st1⟩ := getF X0 hx hZ hown (host := "") (Or.inl (hw _ (List.mem_of_getElem? (i := 14) rfl))) Via.refl e0 F_BMP_lastCodePoint (g := (mkF m 6 #[.val (.ref s_BMP), .val (.int ((own_bnd (p2 &&& (7 : Int32))) + ((p1 &&& (7 : Int32)) - (3 : Int32))))] [(.ref s_BMP), (.int ((own_bnd (p2 &&& (7 : Int32))) + ((p1 &&& (7 : Int32)) - (3 : Int32))))])) rfl rfl (hb hby d1_6)
  obtain ⟨fs, hr, hrun, hended, hW, hsame⟩ := X1.leave (v := some (.int (1 : Int32))) (fun h => by rw [Bd.returns] at h; cases h)
  refine ⟨_, _, pre0 _ ?_, hrun, hended, _, _, rfl, ?_, ⟨_, rfl⟩, hW, hsame.mono (by decide) (by decide)⟩
  · show Steps p.tables e below (s₁.setTop (mkF m 0 #[.val (.ref s_BMP), .val (.int ((own_bnd (p2 &&& (7 : Int32))) + ((p1 &&& (7 : Int32)) - (3 : Int32))))] [])) _
    refine XS.iloadN X0.here hx rfl (hb hby d1_0) rfl ?_
    show Steps p.tables e below (s₁.setTop (mkF m 1 #[.val (.ref s_BMP), .val (.int ((own_bnd (p2 &&& (7 : Int32))) + ((p1 &&& (7 : Int32)) - (3 : Int32))))] [(.int ((own_bnd (p2 &&& (7 : Int32))) + ((p1 &&& (7 : Int32)) - (3 : Int32))))])) _
    refine XS.ifNo X0.here hx rfl (hb hby d1_1) rfl hc_lt_0 ?_
    show Steps p.tables e below (s₁.setTop (mkF m 4 #[.val (.ref s_BMP), .val (.int ((own_bnd (p2 &&& (7 : Int32))) + ((p1 &&& (7 : Int32)) - (3 : Int32))))] [])) _
    refine XS.iloadN X0.here hx rfl (hb hby d1_4) rfl ?_
    show Steps p.tables e below (s₁.setTop (mkF m 5 #[.val (.ref s_BMP), .val (.int ((own_bnd (p2 &&& (7 : Int32))) + ((p1 &&& (7 : Int32)) - (3 : Int32))))] [(.int ((own_bnd (p2 &&& (7 : Int32))) + ((p1 &&& (7 : Int32)) - (3 : Int32))))])) _
    refine XS.aloadN X0.here hx rfl (hb hby d1_5) rfl rfl ?_
    show Steps p.tables e below (s₁.setTop (mkF m 6 #[.val (.ref s_BMP), .val (.int ((own_bnd (p2 &&& (7 : Int32))) + ((p1 &&& (7 : Int32)) - (3 : Int32))))] [(.ref s_BMP), (.int ((own_bnd (p2 &&& (7 : Int32))) + ((p1 &&& (7 : Int32)) - (3 : Int32))))])) _
    refine st1 _ ?_
    show Steps p.tables e below (T1.setTop (mkF m 9 #[.val (.ref s_BMP), .val (.int ((own_bnd (p2 &&& (7 : Int32))) + ((p1 &&& (7 : Int32)) - (3 : Int32))))] [(.int (65535 : Int32)), (.int ((own_bnd (p2 &&& (7 : Int32))) + ((p1 &&& (7 : Int32)) - (3 : Int32))))])) _
    refine XS.icmpNo X1.here hx rfl (hb hby d1_9) rfl hc_gt_65535 ?_
    show Steps p.tables e below (T1.setTop (mkF m 12 #[.val (.ref s_BMP), .val (.int ((own_bnd (p2 &&& (7 : Int32))) + ((p1 &&& (7 : Int32)) - (3 : Int32))))] [])) _
    refine XS.iloadN X1.here hx rfl (hb hby d1_12) rfl ?_
    show Steps p.tables e below (T1.setTop (mkF m 13 #[.val (.ref s_BMP), .val (.int ((own_bnd (p2 &&& (7 : Int32))) + ((p1 &&& (7 : Int32)) - (3 : Int32))))] [(.int ((own_bnd (p2 &&& (7 : Int32))) + ((p1 &&& (7 : Int32)) - (3 : Int32))))])) _
    refine X1.ldcInt hx hown (mvT hZ (hw _ (List.mem_of_getElem? (i := 21) rfl))) (g := (mkF m 13 #[.val (.ref s_BMP), .val (.int ((own_bnd (p2 &&& (7 : Int32))) + ((p1 &&& (7 : Int32)) - (3 : Int32))))] [(.int ((own_bnd (p2 &&& (7 : Int32))) + ((p1 &&& (7 : Int32)) - (3 : Int32))))])) rfl (hb hby d1_13) _ ?_
    show Steps p.tables e below (T1.setTop (mkF m 15 #[.val (.ref s_BMP), .val (.int ((own_bnd (p2 &&& (7 : Int32))) + ((p1 &&& (7 : Int32)) - (3 : Int32))))] [(.int (55296 : Int32)), (.int ((own_bnd (p2 &&& (7 : Int32))) + ((p1 &&& (7 : Int32)) - (3 : Int32))))])) _
    refine XS.icmpNo X1.here hx rfl (hb hby d1_15) rfl hc_lt_55296 ?_
    show Steps p.tables e below (T1.setTop (mkF m 18 #[.val (.ref s_BMP), .val (.int ((own_bnd (p2 &&& (7 : Int32))) + ((p1 &&& (7 : Int32)) - (3 : Int32))))] [])) _
    refine XS.iloadN X1.here hx rfl (hb hby d1_18) rfl ?_
    show Steps p.tables e below (T1.setTop (mkF m 19 #[.val (.ref s_BMP), .val (.int ((own_bnd (p2 &&& (7 : Int32))) + ((p1 &&& (7 : Int32)) - (3 : Int32))))] [(.int ((own_bnd (p2 &&& (7 : Int32))) + ((p1 &&& (7 : Int32)) - (3 : Int32))))])) _
    refine X1.ldcInt hx hown (mvT hZ (hw _ (List.mem_of_getElem? (i := 22) rfl))) (g := (mkF m 19 #[.val (.ref s_BMP), .val (.int ((own_bnd (p2 &&& (7 : Int32))) + ((p1 &&& (7 : Int32)) - (3 : Int32))))] [(.int ((own_bnd (p2 &&& (7 : Int32))) + ((p1 &&& (7 : Int32)) - (3 : Int32))))])) rfl (hb hby d1_19) _ ?_
    show Steps p.tables e below (T1.setTop (mkF m 21 #[.val (.ref s_BMP), .val (.int ((own_bnd (p2 &&& (7 : Int32))) + ((p1 &&& (7 : Int32)) - (3 : Int32))))] [(.int (57343 : Int32)), (.int ((own_bnd (p2 &&& (7 : Int32))) + ((p1 &&& (7 : Int32)) - (3 : Int32))))])) _
    refine XS.icmpNo X1.here hx rfl (hb hby d1_21) rfl hc_le_57343 ?_
    show Steps p.tables e below (T1.setTop (mkF m 24 #[.val (.ref s_BMP), .val (.int ((own_bnd (p2 &&& (7 : Int32))) + ((p1 &&& (7 : Int32)) - (3 : Int32))))] [])) _
    refine XS.iconst X1.here hx rfl (hb hby d1_24) ?_
    show Steps p.tables e below (T1.setTop (mkF m 25 #[.val (.ref s_BMP), .val (.int ((own_bnd (p2 &&& (7 : Int32))) + ((p1 &&& (7 : Int32)) - (3 : Int32))))] [(.int (1 : Int32))])) _
    refine XS.goto X1.here hx rfl (pc0 := 25) (pc' := 29) rfl (hb hby d1_25) (by decide) (by decide) ?_
    show Steps p.tables e below (T1.setTop (mkF m 29 #[.val (.ref s_BMP), .val (.int ((own_bnd (p2 &&& (7 : Int32))) + ((p1 &&& (7 : Int32)) - (3 : Int32))))] [(.int (1 : Int32))])) _
    exact retN X1 hx (t := .boolean) Bd.returns (by simp) (hb hby d1_29) hr
  · exact ⟨rfl, N0, e1⟩
set_option maxRecDepth 65536 in
set_option maxHeartbeats 40000000 in
theorem law_k1_0_3 (l : Launch) (Z : State) (a0 : Array Value) (hw : ∀ d ∈ tables_1, d.before a0 Z = true) (ws : List Jvm.Cond) (h0 : Heap) (n0 : Nat) (s_IA5 : Addr) (s_BMP : Addr) (s_UTF8 : Addr) (K : Ctx Z h0 s_IA5 s_BMP s_UTF8) (p0 : Int32) (p1 : Int32) (p2 : Int32) (ha : ((p0 &&& (2147483647 : Int32)) % (3 : Int32)) = (1 : Int32)) (hb1 : (p2 &&& (8 : Int32)) = (0 : Int32)) (hc_lt_0 : ifCond.holds .lt ((own_bnd (p2 &&& (7 : Int32))) + ((p1 &&& (7 : Int32)) - (3 : Int32))) = false) (hc_lt_55296 : if_icmp.holds .lt ((own_bnd (p2 &&& (7 : Int32))) + ((p1 &&& (7 : Int32)) - (3 : Int32))) (55296 : Int32) = false) (hc_lt_57344 : if_icmp.holds .lt ((own_bnd (p2 &&& (7 : Int32))) + ((p1 &&& (7 : Int32)) - (3 : Int32))) (57344 : Int32) = false) (hc_gt_65535 : if_icmp.holds .gt ((own_bnd (p2 &&& (7 : Int32))) + ((p1 &&& (7 : Int32)) - (3 : Int32))) (65535 : Int32) = false) (hc_le_57343 : if_icmp.holds .le ((own_bnd (p2 &&& (7 : Int32))) + ((p1 &&& (7 : Int32)) - (3 : Int32))) (57343 : Int32) = false) :
    MetFree l x (head1 (Jvm.Cond.code x code maxLocals ret :: ws) room_1) (fun a U => a = #[(.int p0), (.int p1), (.int p2)] ∧ Z.Warmed39 U.vm ∧ U.heap = h0) (fun _ _ _ _ _ => True) (fun _ U o U' => ∃ v L, o = .returned v ∧ QV (.int (1 : Int32)) h0 n0 v U'.heap L ∧ FrameEnd U o U' L room_1.cells room_1.slots) := by
  obtain ⟨S_IA5, E_IA5, F_IA5_lastCodePoint, S_BMP, E_BMP, F_BMP_lastCodePoint, S_UTF8, E_UTF8, F_UTF8_lastCodePoint⟩ := id K
  refine MetFree.of_bodySF (plainFor_of_name pn2) hisR ?_
  intro p e s m args below meth c s₁ Bd hml0 hP hK
  obtain ⟨rfl, hZ, hh⟩ := hP
  have hx := Bd.exec
  have hby := Bd.bytes
  have hml : c.maxLocals = 7 := hml0
  have hown : s.vm.findClass "com/example/plainwire/plainwire/definitions/RepertoireHoldsPinLaw" = some m.cls := findClass_of_methodNamed Bd.named
  have X0 : Stand p l e room_1 s m #[(.int p0), (.int p1), (.int p2)] below meth c s₁ [] 0 0 := Stand.of_body Bd
  have e0 : s₁.heap = h0 := by rw [← hh, Bd.state]; rfl
  have N0 := Fr.nil n0
  have pre0 : ∀ t, Steps p.tables e below (s₁.setTop (mkF m 0 #[.val (.int p0), .val (.int p1), .val (.int p2), .unset, .unset, .unset, .unset] [])) t → Steps p.tables e below (s₁.setTop (entryFrame m #[(.int p0), (.int p1), (.int p2)] maxLocals)) t := fun t k => castTop (by first | (simp [entryFrame, mkF, argsToLocals, Value.category, maxLocals]; done) | rfl) k
  obtain ⟨T1, X1, e1, st1⟩ := getS X0 hx hZ hown (host := "") (hw _ (List.mem_of_getElem? (i := 16) rfl)) Via.refl e0 S_BMP (g := (mkF m 24 #[.val (.int p0), .val (.int p1), .val (.int p2), .val (.int (1 : Int32)), .unset, .unset, .unset] [])) rfl (hb hby at_24)
  obtain ⟨_, _, ⟨T2, L2, k2, n2⟩, -, X2, ⟨Lc2, hQ2, l2, y2, z2⟩, st2⟩ := Jvm.LawKit.callS X1 hx (y := (⟨"com/example/plainwire/plainwire/definitions/RepertoireHoldsPinLaw", "boundary", "(I)I"⟩ : MethodName)) hown (mvT hZ (hw _ (List.mem_of_getElem? (i := 4) rfl))) (mvT hZ (hw _ (List.mem_of_getElem? (i := 5) rfl))) (mvT hZ (hw _ (List.mem_of_getElem? (i := 6) rfl))) (mvT hZ (hw _ (List.mem_of_getElem? (i := 7) rfl))) (by decide) (backOf (W := 0) (own_bndK l Z a0 hw [] h0 n0 s_IA5 s_BMP s_UTF8 K (p2 &&& (7 : Int32)) (own_and8 p2)) hZ (hw _ (List.mem_of_getElem? (i := 7) rfl)) (hw _ (List.mem_of_getElem? (i := 6) rfl)) (by decide) (by decide)) (g := (mkF m 54 #[.val (.int p0), .val (.int p1), .val (.int p2), .val (.int (1 : Int32)), .val (.ref s_BMP), .unset, .unset] [(.int (p2 &&& (7 : Int32)))])) rfl (by rw [hml]; rfl) (argsL := [(.int (p2 &&& (7 : Int32)))]) (rest := []) (lenOf pd0 rfl) rfl (by show 2 * 0 + _ ≤ _; exact Nat.le_of_eq rfl) (hb hby at_54) (fun _ _ => ⟨rfl, e1, (by decide : 0 + 0 ≤ _), (by decide : 0 + 0 ≤ _)⟩)
  dsimp only [Pt.U, Pt.locs, Pt.cells, Pt.slots] at X2 l2 y2 z2 st2 hQ2
  subst l2 y2 z2
  obtain ⟨rfl, N2q, e2⟩ := hQ2
  have N2 := Fr.app N0 N2q
  obtain ⟨cq3, kq3, q3a, q3b, q3c⟩ := isOf hZ e2 E_BMP
  obtain ⟨_, _, ⟨T3, L3, k3, n3⟩, -, X3, ⟨Lc3, hQ3, l3, y3, z3⟩, st3⟩ := X2.virtualBack hx (y := (⟨"com/example/plainwire/plainwire/definitions/Repertoire", "holds", "(I)Z"⟩ : MethodName)) (z := (⟨"com/example/plainwire/plainwire/definitions/Repertoire", "holds", "(I)Z"⟩ : MethodName)) hown (mvT hZ (hw _ (List.mem_of_getElem? (i := 9) rfl))) (mvT hZ (hw _ (List.mem_of_getElem? (i := 10) rfl))) (notFace_of_selects (args := #[]) (mvT hZ (hw _ (List.mem_of_getElem? (i := 12) rfl)))) (mvT hZ (hw _ (List.mem_of_getElem? (i := 12) rfl))) (mvT hZ (hw _ (List.mem_of_getElem? (i := 11) rfl))) (by decide) (backOf (W := 0) (r26 l Z a0 hw [] h0 n0 s_IA5 s_BMP s_UTF8 K p1 p2 hc_lt_0 hc_gt_65535 hc_lt_55296 hc_le_57343) hZ (hw _ (List.mem_of_getElem? (i := 13) rfl)) (hw _ (List.mem_of_getElem? (i := 2) rfl)) (by decide) (by decide)) q3a q3c (g := (mkF m 170 #[.val (.int p0), .val (.int p1), .val (.int p2), .val (.int (1 : Int32)), .val (.ref s_BMP), .val (.int ((own_bnd (p2 &&& (7 : Int32))) + ((p1 &&& (7 : Int32)) - (3 : Int32)))), .val (.int (1 : Int32))] [(.int ((own_bnd (p2 &&& (7 : Int32))) + ((p1 &&& (7 : Int32)) - (3 : Int32)))), (.ref s_BMP)])) rfl (by rw [hml]; rfl) (Steps.refl _) (argsL := [(.int ((own_bnd (p2 &&& (7 : Int32))) + ((p1 &&& (7 : Int32)) - (3 : Int32))))]) (rest := []) (lenOf pd1 rfl) rfl (by show 2 * 0 + _ ≤ _; exact Nat.le_of_eq rfl) (hb hby at_170) (fun _ _ => ⟨rfl, e2, (by decide : 0 + 0 ≤ _), (by decide : 0 + 0 ≤ _)⟩)
  dsimp only [Pt.U, Pt.locs, Pt.cells, Pt.slots] at X3 l3 y3 z3 st3 hQ3
  subst l3 y3 z3
  obtain ⟨rfl, N3q, e3⟩ := hQ3
  have N3 := Fr.app N2 N3q
  obtain ⟨fs, hr, hrun, hended, hW, hsame⟩ := X3.leave (v := some (.int (1 : Int32))) (fun h => by rw [Bd.returns] at h; cases h)
  refine ⟨_, _, pre0 _ ?_, hrun, hended, _, _, rfl, ?_, ⟨_, rfl⟩, hW, hsame.mono (by decide) (by decide)⟩
  · show Steps p.tables e below (s₁.setTop (mkF m 0 #[.val (.int p0), .val (.int p1), .val (.int p2), .unset, .unset, .unset, .unset] [])) _
    refine XS.iloadN X0.here hx rfl (hb hby at_0) rfl ?_
    show Steps p.tables e below (s₁.setTop (mkF m 1 #[.val (.int p0), .val (.int p1), .val (.int p2), .unset, .unset, .unset, .unset] [(.int p0)])) _
    refine X0.ldcInt hx hown (mvT hZ (hw _ (List.mem_of_getElem? (i := 0) rfl))) (g := (mkF m 1 #[.val (.int p0), .val (.int p1), .val (.int p2), .unset, .unset, .unset, .unset] [(.int p0)])) rfl (hb hby at_1) _ ?_
    show Steps p.tables e below (s₁.setTop (mkF m 3 #[.val (.int p0), .val (.int p1), .val (.int p2), .unset, .unset, .unset, .unset] [(.int (2147483647 : Int32)), (.int p0)])) _
    refine XS.iand X0.here hx rfl (hb hby at_3) rfl ?_
    show Steps p.tables e below (s₁.setTop (mkF m 4 #[.val (.int p0), .val (.int p1), .val (.int p2), .unset, .unset, .unset, .unset] [(.int (p0 &&& (2147483647 : Int32)))])) _
    refine XS.iconst X0.here hx rfl (hb hby at_4) ?_
    show Steps p.tables e below (s₁.setTop (mkF m 5 #[.val (.int p0), .val (.int p1), .val (.int p2), .unset, .unset, .unset, .unset] [(.int (3 : Int32)), (.int (p0 &&& (2147483647 : Int32)))])) _
    refine Jvm.RoadKit.iremM X0 hx rfl (hb hby at_5) rfl (by decide) ?_
    show Steps p.tables e below (s₁.setTop (mkF m 6 #[.val (.int p0), .val (.int p1), .val (.int p2), .unset, .unset, .unset, .unset] [(.int ((p0 &&& (2147483647 : Int32)) % (3 : Int32)))])) _
    rw [ha]
    show Steps p.tables e below (s₁.setTop (mkF m 6 #[.val (.int p0), .val (.int p1), .val (.int p2), .unset, .unset, .unset, .unset] [(.int (1 : Int32))])) _
    refine XS.istoreN X0.here hx rfl (hb hby at_6) rfl (l' := #[.val (.int p0), .val (.int p1), .val (.int p2), .val (.int (1 : Int32)), .unset, .unset, .unset]) rfl ?_
    show Steps p.tables e below (s₁.setTop (mkF m 7 #[.val (.int p0), .val (.int p1), .val (.int p2), .val (.int (1 : Int32)), .unset, .unset, .unset] [])) _
    refine XS.iloadN X0.here hx rfl (hb hby at_7) rfl ?_
    show Steps p.tables e below (s₁.setTop (mkF m 8 #[.val (.int p0), .val (.int p1), .val (.int p2), .val (.int (1 : Int32)), .unset, .unset, .unset] [(.int (1 : Int32))])) _
    refine XS.ifYes X0.here hx rfl (pc0 := 8) (pc' := 19) rfl (hb hby at_8) rfl (by decide +kernel) (by decide) (by decide) ?_
    show Steps p.tables e below (s₁.setTop (mkF m 19 #[.val (.int p0), .val (.int p1), .val (.int p2), .val (.int (1 : Int32)), .unset, .unset, .unset] [])) _
    refine XS.iloadN X0.here hx rfl (hb hby at_19) rfl ?_
    show Steps p.tables e below (s₁.setTop (mkF m 20 #[.val (.int p0), .val (.int p1), .val (.int p2), .val (.int (1 : Int32)), .unset, .unset, .unset] [(.int (1 : Int32))])) _
    refine XS.iconst X0.here hx rfl (hb hby at_20) ?_
    show Steps p.tables e below (s₁.setTop (mkF m 21 #[.val (.int p0), .val (.int p1), .val (.int p2), .val (.int (1 : Int32)), .unset, .unset, .unset] [(.int (1 : Int32)), (.int (1 : Int32))])) _
    refine XS.icmpNo X0.here hx rfl (hb hby at_21) rfl (by decide +kernel) ?_
    show Steps p.tables e below (s₁.setTop (mkF m 24 #[.val (.int p0), .val (.int p1), .val (.int p2), .val (.int (1 : Int32)), .unset, .unset, .unset] [])) _
    refine st1 _ ?_
    show Steps p.tables e below (T1.setTop (mkF m 27 #[.val (.int p0), .val (.int p1), .val (.int p2), .val (.int (1 : Int32)), .unset, .unset, .unset] [(.ref s_BMP)])) _
    refine XS.astore X1.here hx rfl (hb hby at_27) rfl rfl (l' := #[.val (.int p0), .val (.int p1), .val (.int p2), .val (.int (1 : Int32)), .val (.ref s_BMP), .unset, .unset]) rfl ?_
    show Steps p.tables e below (T1.setTop (mkF m 29 #[.val (.int p0), .val (.int p1), .val (.int p2), .val (.int (1 : Int32)), .val (.ref s_BMP), .unset, .unset] [])) _
    refine XS.goto X1.here hx rfl (pc0 := 29) (pc' := 37) rfl (hb hby at_29) (by decide) (by decide) ?_
    show Steps p.tables e below (T1.setTop (mkF m 37 #[.val (.int p0), .val (.int p1), .val (.int p2), .val (.int (1 : Int32)), .val (.ref s_BMP), .unset, .unset] [])) _
    refine XS.iloadN X1.here hx rfl (hb hby at_37) rfl ?_
    show Steps p.tables e below (T1.setTop (mkF m 38 #[.val (.int p0), .val (.int p1), .val (.int p2), .val (.int (1 : Int32)), .val (.ref s_BMP), .unset, .unset] [(.int p2)])) _
    refine XS.bipush X1.here hx rfl (hb hby at_38) ?_
    show Steps p.tables e below (T1.setTop (mkF m 40 #[.val (.int p0), .val (.int p1), .val (.int p2), .val (.int (1 : Int32)), .val (.ref s_BMP), .unset, .unset] [(.int (8 : Int32)), (.int p2)])) _
    refine XS.iand X1.here hx rfl (hb hby at_40) rfl ?_
    show Steps p.tables e below (T1.setTop (mkF m 41 #[.val (.int p0), .val (.int p1), .val (.int p2), .val (.int (1 : Int32)), .val (.ref s_BMP), .unset, .unset] [(.int (p2 &&& (8 : Int32)))])) _
    rw [hb1]
    show Steps p.tables e below (T1.setTop (mkF m 41 #[.val (.int p0), .val (.int p1), .val (.int p2), .val (.int (1 : Int32)), .val (.ref s_BMP), .unset, .unset] [(.int (0 : Int32))])) _
    refine XS.ifYes X1.here hx rfl (pc0 := 41) (pc' := 50) rfl (hb hby at_41) rfl (by decide +kernel) (by decide) (by decide) ?_
    show Steps p.tables e below (T1.setTop (mkF m 50 #[.val (.int p0), .val (.int p1), .val (.int p2), .val (.int (1 : Int32)), .val (.ref s_BMP), .unset, .unset] [])) _
    refine XS.iloadN X1.here hx rfl (hb hby at_50) rfl ?_
    show Steps p.tables e below (T1.setTop (mkF m 51 #[.val (.int p0), .val (.int p1), .val (.int p2), .val (.int (1 : Int32)), .val (.ref s_BMP), .unset, .unset] [(.int p2)])) _
    refine XS.bipush X1.here hx rfl (hb hby at_51) ?_
    show Steps p.tables e below (T1.setTop (mkF m 53 #[.val (.int p0), .val (.int p1), .val (.int p2), .val (.int (1 : Int32)), .val (.ref s_BMP), .unset, .unset] [(.int (7 : Int32)), (.int p2)])) _
    refine XS.iand X1.here hx rfl (hb hby at_53) rfl ?_
    show Steps p.tables e below (T1.setTop (mkF m 54 #[.val (.int p0), .val (.int p1), .val (.int p2), .val (.int (1 : Int32)), .val (.ref s_BMP), .unset, .unset] [(.int (p2 &&& (7 : Int32)))])) _
    refine st2 _ ?_
    show Steps p.tables e below (T2.setTop (mkF m 57 #[.val (.int p0), .val (.int p1), .val (.int p2), .val (.int (1 : Int32)), .val (.ref s_BMP), .unset, .unset] [(.int (own_bnd (p2 &&& (7 : Int32))))])) _
    refine XS.iloadN X2.here hx rfl (hb hby at_57) rfl ?_
    show Steps p.tables e below (T2.setTop (mkF m 58 #[.val (.int p0), .val (.int p1), .val (.int p2), .val (.int (1 : Int32)), .val (.ref s_BMP), .unset, .unset] [(.int p1), (.int (own_bnd (p2 &&& (7 : Int32))))])) _
    refine XS.bipush X2.here hx rfl (hb hby at_58) ?_
    show Steps p.tables e below (T2.setTop (mkF m 60 #[.val (.int p0), .val (.int p1), .val (.int p2), .val (.int (1 : Int32)), .val (.ref s_BMP), .unset, .unset] [(.int (7 : Int32)), (.int p1), (.int (own_bnd (p2 &&& (7 : Int32))))])) _
    refine XS.iand X2.here hx rfl (hb hby at_60) rfl ?_
    show Steps p.tables e below (T2.setTop (mkF m 61 #[.val (.int p0), .val (.int p1), .val (.int p2), .val (.int (1 : Int32)), .val (.ref s_BMP), .unset, .unset] [(.int (p1 &&& (7 : Int32))), (.int (own_bnd (p2 &&& (7 : Int32))))])) _
    refine XS.iconst X2.here hx rfl (hb hby at_61) ?_
    show Steps p.tables e below (T2.setTop (mkF m 62 #[.val (.int p0), .val (.int p1), .val (.int p2), .val (.int (1 : Int32)), .val (.ref s_BMP), .unset, .unset] [(.int (3 : Int32)), (.int (p1 &&& (7 : Int32))), (.int (own_bnd (p2 &&& (7 : Int32))))])) _
    refine XS.isub X2.here hx rfl (hb hby at_62) rfl ?_
    show Steps p.tables e below (T2.setTop (mkF m 63 #[.val (.int p0), .val (.int p1), .val (.int p2), .val (.int (1 : Int32)), .val (.ref s_BMP), .unset, .unset] [(.int ((p1 &&& (7 : Int32)) - (3 : Int32))), (.int (own_bnd (p2 &&& (7 : Int32))))])) _
    refine XS.iadd X2.here hx rfl (hb hby at_63) rfl ?_
    show Steps p.tables e below (T2.setTop (mkF m 64 #[.val (.int p0), .val (.int p1), .val (.int p2), .val (.int (1 : Int32)), .val (.ref s_BMP), .unset, .unset] [(.int ((own_bnd (p2 &&& (7 : Int32))) + ((p1 &&& (7 : Int32)) - (3 : Int32))))])) _
    refine XS.istore X2.here hx rfl (hb hby at_64) rfl (l' := #[.val (.int p0), .val (.int p1), .val (.int p2), .val (.int (1 : Int32)), .val (.ref s_BMP), .val (.int ((own_bnd (p2 &&& (7 : Int32))) + ((p1 &&& (7 : Int32)) - (3 : Int32)))), .unset]) rfl ?_
    show Steps p.tables e below (T2.setTop (mkF m 66 #[.val (.int p0), .val (.int p1), .val (.int p2), .val (.int (1 : Int32)), .val (.ref s_BMP), .val (.int ((own_bnd (p2 &&& (7 : Int32))) + ((p1 &&& (7 : Int32)) - (3 : Int32)))), .unset] [])) _
    refine XS.iloadN X2.here hx rfl (hb hby at_66) rfl ?_
    show Steps p.tables e below (T2.setTop (mkF m 67 #[.val (.int p0), .val (.int p1), .val (.int p2), .val (.int (1 : Int32)), .val (.ref s_BMP), .val (.int ((own_bnd (p2 &&& (7 : Int32))) + ((p1 &&& (7 : Int32)) - (3 : Int32)))), .unset] [(.int (1 : Int32))])) _
    refine XS.ifYes X2.here hx rfl (pc0 := 67) (pc' := 92) rfl (hb hby at_67) rfl (by decide +kernel) (by decide) (by decide) ?_
    show Steps p.tables e below (T2.setTop (mkF m 92 #[.val (.int p0), .val (.int p1), .val (.int p2), .val (.int (1 : Int32)), .val (.ref s_BMP), .val (.int ((own_bnd (p2 &&& (7 : Int32))) + ((p1 &&& (7 : Int32)) - (3 : Int32)))), .unset] [])) _
    refine XS.iloadN X2.here hx rfl (hb hby at_92) rfl ?_
    show Steps p.tables e below (T2.setTop (mkF m 93 #[.val (.int p0), .val (.int p1), .val (.int p2), .val (.int (1 : Int32)), .val (.ref s_BMP), .val (.int ((own_bnd (p2 &&& (7 : Int32))) + ((p1 &&& (7 : Int32)) - (3 : Int32)))), .unset] [(.int (1 : Int32))])) _
    refine XS.iconst X2.here hx rfl (hb hby at_93) ?_
    show Steps p.tables e below (T2.setTop (mkF m 94 #[.val (.int p0), .val (.int p1), .val (.int p2), .val (.int (1 : Int32)), .val (.ref s_BMP), .val (.int ((own_bnd (p2 &&& (7 : Int32))) + ((p1 &&& (7 : Int32)) - (3 : Int32)))), .unset] [(.int (1 : Int32)), (.int (1 : Int32))])) _
    refine XS.icmpNo X2.here hx rfl (hb hby at_94) rfl (by decide +kernel) ?_
    show Steps p.tables e below (T2.setTop (mkF m 97 #[.val (.int p0), .val (.int p1), .val (.int p2), .val (.int (1 : Int32)), .val (.ref s_BMP), .val (.int ((own_bnd (p2 &&& (7 : Int32))) + ((p1 &&& (7 : Int32)) - (3 : Int32)))), .unset] [])) _
    refine XS.iload X2.here hx rfl (hb hby at_97) rfl ?_
    show Steps p.tables e below (T2.setTop (mkF m 99 #[.val (.int p0), .val (.int p1), .val (.int p2), .val (.int (1 : Int32)), .val (.ref s_BMP), .val (.int ((own_bnd (p2 &&& (7 : Int32))) + ((p1 &&& (7 : Int32)) - (3 : Int32)))), .unset] [(.int ((own_bnd (p2 &&& (7 : Int32))) + ((p1 &&& (7 : Int32)) - (3 : Int32))))])) _
    refine XS.ifNo X2.here hx rfl (hb hby at_99) rfl hc_lt_0 ?_
    show Steps p.tables e below (T2.setTop (mkF m 102 #[.val (.int p0), .val (.int p1), .val (.int p2), .val (.int (1 : Int32)), .val (.ref s_BMP), .val (.int ((own_bnd (p2 &&& (7 : Int32))) + ((p1 &&& (7 : Int32)) - (3 : Int32)))), .unset] [])) _
    refine XS.iload X2.here hx rfl (hb hby at_102) rfl ?_
    show Steps p.tables e below (T2.setTop (mkF m 104 #[.val (.int p0), .val (.int p1), .val (.int p2), .val (.int (1 : Int32)), .val (.ref s_BMP), .val (.int ((own_bnd (p2 &&& (7 : Int32))) + ((p1 &&& (7 : Int32)) - (3 : Int32)))), .unset] [(.int ((own_bnd (p2 &&& (7 : Int32))) + ((p1 &&& (7 : Int32)) - (3 : Int32))))])) _
    refine X2.ldcInt hx hown (mvT hZ (hw _ (List.mem_of_getElem? (i := 8) rfl))) (g := (mkF m 104 #[.val (.int p0), .val (.int p1), .val (.int p2), .val (.int (1 : Int32)), .val (.ref s_BMP), .val (.int ((own_bnd (p2 &&& (7 : Int32))) + ((p1 &&& (7 : Int32)) - (3 : Int32)))), .unset] [(.int ((own_bnd (p2 &&& (7 : Int32))) + ((p1 &&& (7 : Int32)) - (3 : Int32))))])) rfl (hb hby at_104) _ ?_
    show Steps p.tables e below (T2.setTop (mkF m 106 #[.val (.int p0), .val (.int p1), .val (.int p2), .val (.int (1 : Int32)), .val (.ref s_BMP), .val (.int ((own_bnd (p2 &&& (7 : Int32))) + ((p1 &&& (7 : Int32)) - (3 : Int32)))), .unset] [(.int (55296 : Int32)), (.int ((own_bnd (p2 &&& (7 : Int32))) + ((p1 &&& (7 : Int32)) - (3 : Int32))))])) _
    refine XS.icmpNo X2.here hx rfl (hb hby at_106) rfl hc_lt_55296 ?_
    show Steps p.tables e below (T2.setTop (mkF m 109 #[.val (.int p0), .val (.int p1), .val (.int p2), .val (.int (1 : Int32)), .val (.ref s_BMP), .val (.int ((own_bnd (p2 &&& (7 : Int32))) + ((p1 &&& (7 : Int32)) - (3 : Int32)))), .unset] [])) _
    refine XS.iload X2.here hx rfl (hb hby at_109) rfl ?_
    show Steps p.tables e below (T2.setTop (mkF m 111 #[.val (.int p0), .val (.int p1), .val (.int p2), .val (.int (1 : Int32)), .val (.ref s_BMP), .val (.int ((own_bnd (p2 &&& (7 : Int32))) + ((p1 &&& (7 : Int32)) - (3 : Int32)))), .unset] [(.int ((own_bnd (p2 &&& (7 : Int32))) + ((p1 &&& (7 : Int32)) - (3 : Int32))))])) _
    refine X2.ldcInt hx hown (mvT hZ (hw _ (List.mem_of_getElem? (i := 19) rfl))) (g := (mkF m 111 #[.val (.int p0), .val (.int p1), .val (.int p2), .val (.int (1 : Int32)), .val (.ref s_BMP), .val (.int ((own_bnd (p2 &&& (7 : Int32))) + ((p1 &&& (7 : Int32)) - (3 : Int32)))), .unset] [(.int ((own_bnd (p2 &&& (7 : Int32))) + ((p1 &&& (7 : Int32)) - (3 : Int32))))])) rfl (hb hby at_111) _ ?_
    show Steps p.tables e below (T2.setTop (mkF m 113 #[.val (.int p0), .val (.int p1), .val (.int p2), .val (.int (1 : Int32)), .val (.ref s_BMP), .val (.int ((own_bnd (p2 &&& (7 : Int32))) + ((p1 &&& (7 : Int32)) - (3 : Int32)))), .unset] [(.int (57344 : Int32)), (.int ((own_bnd (p2 &&& (7 : Int32))) + ((p1 &&& (7 : Int32)) - (3 : Int32))))])) _
    refine XS.icmpNo X2.here hx rfl (hb hby at_113) rfl hc_lt_57344 ?_
    show Steps p.tables e below (T2.setTop (mkF m 116 #[.val (.int p0), .val (.int p1), .val (.int p2), .val (.int (1 : Int32)), .val (.ref s_BMP), .val (.int ((own_bnd (p2 &&& (7 : Int32))) + ((p1 &&& (7 : Int32)) - (3 : Int32)))), .unset] [])) _
    refine XS.iload X2.here hx rfl (hb hby at_116) rfl ?_
    show Steps p.tables e below (T2.setTop (mkF m 118 #[.val (.int p0), .val (.int p1), .val (.int p2), .val (.int (1 : Int32)), .val (.ref s_BMP), .val (.int ((own_bnd (p2 &&& (7 : Int32))) + ((p1 &&& (7 : Int32)) - (3 : Int32)))), .unset] [(.int ((own_bnd (p2 &&& (7 : Int32))) + ((p1 &&& (7 : Int32)) - (3 : Int32))))])) _
    refine X2.ldcInt hx hown (mvT hZ (hw _ (List.mem_of_getElem? (i := 20) rfl))) (g := (mkF m 118 #[.val (.int p0), .val (.int p1), .val (.int p2), .val (.int (1 : Int32)), .val (.ref s_BMP), .val (.int ((own_bnd (p2 &&& (7 : Int32))) + ((p1 &&& (7 : Int32)) - (3 : Int32)))), .unset] [(.int ((own_bnd (p2 &&& (7 : Int32))) + ((p1 &&& (7 : Int32)) - (3 : Int32))))])) rfl (hb hby at_118) _ ?_
    show Steps p.tables e below (T2.setTop (mkF m 120 #[.val (.int p0), .val (.int p1), .val (.int p2), .val (.int (1 : Int32)), .val (.ref s_BMP), .val (.int ((own_bnd (p2 &&& (7 : Int32))) + ((p1 &&& (7 : Int32)) - (3 : Int32)))), .unset] [(.int (65535 : Int32)), (.int ((own_bnd (p2 &&& (7 : Int32))) + ((p1 &&& (7 : Int32)) - (3 : Int32))))])) _
    refine XS.icmpNo X2.here hx rfl (hb hby at_120) rfl hc_gt_65535 ?_
    show Steps p.tables e below (T2.setTop (mkF m 123 #[.val (.int p0), .val (.int p1), .val (.int p2), .val (.int (1 : Int32)), .val (.ref s_BMP), .val (.int ((own_bnd (p2 &&& (7 : Int32))) + ((p1 &&& (7 : Int32)) - (3 : Int32)))), .unset] [])) _
    refine XS.iconst X2.here hx rfl (hb hby at_123) ?_
    show Steps p.tables e below (T2.setTop (mkF m 124 #[.val (.int p0), .val (.int p1), .val (.int p2), .val (.int (1 : Int32)), .val (.ref s_BMP), .val (.int ((own_bnd (p2 &&& (7 : Int32))) + ((p1 &&& (7 : Int32)) - (3 : Int32)))), .unset] [(.int (1 : Int32))])) _
    refine XS.goto X2.here hx rfl (pc0 := 124) (pc' := 128) rfl (hb hby at_124) (by decide) (by decide) ?_
    show Steps p.tables e below (T2.setTop (mkF m 128 #[.val (.int p0), .val (.int p1), .val (.int p2), .val (.int (1 : Int32)), .val (.ref s_BMP), .val (.int ((own_bnd (p2 &&& (7 : Int32))) + ((p1 &&& (7 : Int32)) - (3 : Int32)))), .unset] [(.int (1 : Int32))])) _
    refine XS.istore X2.here hx rfl (hb hby at_128) rfl (l' := #[.val (.int p0), .val (.int p1), .val (.int p2), .val (.int (1 : Int32)), .val (.ref s_BMP), .val (.int ((own_bnd (p2 &&& (7 : Int32))) + ((p1 &&& (7 : Int32)) - (3 : Int32)))), .val (.int (1 : Int32))]) rfl ?_
    show Steps p.tables e below (T2.setTop (mkF m 130 #[.val (.int p0), .val (.int p1), .val (.int p2), .val (.int (1 : Int32)), .val (.ref s_BMP), .val (.int ((own_bnd (p2 &&& (7 : Int32))) + ((p1 &&& (7 : Int32)) - (3 : Int32)))), .val (.int (1 : Int32))] [])) _
    refine XS.goto X2.here hx rfl (pc0 := 130) (pc' := 166) rfl (hb hby at_130) (by decide) (by decide) ?_
    show Steps p.tables e below (T2.setTop (mkF m 166 #[.val (.int p0), .val (.int p1), .val (.int p2), .val (.int (1 : Int32)), .val (.ref s_BMP), .val (.int ((own_bnd (p2 &&& (7 : Int32))) + ((p1 &&& (7 : Int32)) - (3 : Int32)))), .val (.int (1 : Int32))] [])) _
    refine XS.aload X2.here hx rfl (hb hby at_166) rfl rfl ?_
    show Steps p.tables e below (T2.setTop (mkF m 168 #[.val (.int p0), .val (.int p1), .val (.int p2), .val (.int (1 : Int32)), .val (.ref s_BMP), .val (.int ((own_bnd (p2 &&& (7 : Int32))) + ((p1 &&& (7 : Int32)) - (3 : Int32)))), .val (.int (1 : Int32))] [(.ref s_BMP)])) _
    refine XS.iload X2.here hx rfl (hb hby at_168) rfl ?_
    show Steps p.tables e below (T2.setTop (mkF m 170 #[.val (.int p0), .val (.int p1), .val (.int p2), .val (.int (1 : Int32)), .val (.ref s_BMP), .val (.int ((own_bnd (p2 &&& (7 : Int32))) + ((p1 &&& (7 : Int32)) - (3 : Int32)))), .val (.int (1 : Int32))] [(.int ((own_bnd (p2 &&& (7 : Int32))) + ((p1 &&& (7 : Int32)) - (3 : Int32)))), (.ref s_BMP)])) _
    refine st3.trans ?_
    show Steps p.tables e below (T3.setTop (mkF m 173 #[.val (.int p0), .val (.int p1), .val (.int p2), .val (.int (1 : Int32)), .val (.ref s_BMP), .val (.int ((own_bnd (p2 &&& (7 : Int32))) + ((p1 &&& (7 : Int32)) - (3 : Int32)))), .val (.int (1 : Int32))] [(.int (1 : Int32))])) _
    refine XS.iload X3.here hx rfl (hb hby at_173) rfl ?_
    show Steps p.tables e below (T3.setTop (mkF m 175 #[.val (.int p0), .val (.int p1), .val (.int p2), .val (.int (1 : Int32)), .val (.ref s_BMP), .val (.int ((own_bnd (p2 &&& (7 : Int32))) + ((p1 &&& (7 : Int32)) - (3 : Int32)))), .val (.int (1 : Int32))] [(.int (1 : Int32)), (.int (1 : Int32))])) _
    refine XS.icmpNo X3.here hx rfl (hb hby at_175) rfl (by decide +kernel) ?_
    show Steps p.tables e below (T3.setTop (mkF m 178 #[.val (.int p0), .val (.int p1), .val (.int p2), .val (.int (1 : Int32)), .val (.ref s_BMP), .val (.int ((own_bnd (p2 &&& (7 : Int32))) + ((p1 &&& (7 : Int32)) - (3 : Int32)))), .val (.int (1 : Int32))] [])) _
    refine XS.iconst X3.here hx rfl (hb hby at_178) ?_
    show Steps p.tables e below (T3.setTop (mkF m 179 #[.val (.int p0), .val (.int p1), .val (.int p2), .val (.int (1 : Int32)), .val (.ref s_BMP), .val (.int ((own_bnd (p2 &&& (7 : Int32))) + ((p1 &&& (7 : Int32)) - (3 : Int32)))), .val (.int (1 : Int32))] [(.int (1 : Int32))])) _
    refine XS.goto X3.here hx rfl (pc0 := 179) (pc' := 183) rfl (hb hby at_179) (by decide) (by decide) ?_
    show Steps p.tables e below (T3.setTop (mkF m 183 #[.val (.int p0), .val (.int p1), .val (.int p2), .val (.int (1 : Int32)), .val (.ref s_BMP), .val (.int ((own_bnd (p2 &&& (7 : Int32))) + ((p1 &&& (7 : Int32)) - (3 : Int32)))), .val (.int (1 : Int32))] [(.int (1 : Int32))])) _
    exact retN X3 hx (t := .boolean) Bd.returns (by simp) (hb hby at_183) hr
  · exact ⟨rfl, N3, e3⟩
set_option maxRecDepth 65536 in
set_option maxHeartbeats 40000000 in
theorem r28 (l : Launch) (Z : State) (a0 : Array Value) (hw : ∀ d ∈ tables_1, d.before a0 Z = true) (ws : List Jvm.Cond) (h0 : Heap) (n0 : Nat) (s_IA5 : Addr) (s_BMP : Addr) (s_UTF8 : Addr) (K : Ctx Z h0 s_IA5 s_BMP s_UTF8) (p1 : Int32) (p2 : Int32) (hc_lt_0 : ifCond.holds .lt ((own_bnd (p2 &&& (7 : Int32))) + ((p1 &&& (7 : Int32)) - (3 : Int32))) = false) (hc_gt_65535 : if_icmp.holds .gt ((own_bnd (p2 &&& (7 : Int32))) + ((p1 &&& (7 : Int32)) - (3 : Int32))) (65535 : Int32) = true) :
    MetFree l (⟨"com/example/plainwire/plainwire/definitions/Repertoire", "holds", "(I)Z"⟩ : MethodName) (head1 (Jvm.Cond.code (⟨"com/example/plainwire/plainwire/definitions/Repertoire", "holds", "(I)Z"⟩ : MethodName) prog_37_method_5_code 2 (some .boolean) :: ws) ({ frames := 0, cells := 0, slots := 0, locals := 0 } : Room)) (fun a U => a = #[(.ref s_BMP), (.int ((own_bnd (p2 &&& (7 : Int32))) + ((p1 &&& (7 : Int32)) - (3 : Int32))))] ∧ Z.Warmed39 U.vm ∧ U.heap = h0) (fun _ _ _ _ _ => True) (fun _ U o U' => ∃ v L, o = .returned v ∧ QV (.int (0 : Int32)) h0 n0 v U'.heap L ∧ FrameEnd U o U' L ({ frames := 0, cells := 0, slots := 0, locals := 0 } : Room).cells ({ frames := 0, cells := 0, slots := 0, locals := 0 } : Room).slots) := by
  obtain ⟨S_IA5, E_IA5, F_IA5_lastCodePoint, S_BMP, E_BMP, F_BMP_lastCodePoint, S_UTF8, E_UTF8, F_UTF8_lastCodePoint⟩ := id K
  refine MetFree.of_bodySF (plainFor_of_name pn1) hisR ?_
  intro p e s m args below meth c s₁ Bd hml0 hP hK
  obtain ⟨rfl, hZ, hh⟩ := hP
  have hx := Bd.exec
  have hby := Bd.bytes
  have hml : c.maxLocals = 2 := hml0
  have hown : s.vm.findClass "com/example/plainwire/plainwire/definitions/Repertoire" = some m.cls := findClass_of_methodNamed Bd.named
  have X0 : Stand p l e ({ frames := 0, cells := 0, slots := 0, locals := 0 } : Room) s m #[(.ref s_BMP), (.int ((own_bnd (p2 &&& (7 : Int32))) + ((p1 &&& (7 : Int32)) - (3 : Int32))))] below meth c s₁ [] 0 0 := Stand.of_body Bd
  have e0 : s₁.heap = h0 := by rw [← hh, Bd.state]; rfl
  have N0 := Fr.nil n0
  have pre0 : ∀ t, Steps p.tables e below (s₁.setTop (mkF m 0 #[.val (.ref s_BMP), .val (.int ((own_bnd (p2 &&& (7 : Int32))) + ((p1 &&& (7 : Int32)) - (3 : Int32))))] [])) t → Steps p.tables e below (s₁.setTop (entryFrame m #[(.ref s_BMP), (.int ((own_bnd (p2 &&& (7 : Int32))) + ((p1 &&& (7 : Int32)) - (3 : Int32))))] 2)) t := fun t k => castTop (by first | (simp [entryFrame, mkF, argsToLocals, Value.category]; done) | rfl) k
  obtain ⟨T1, X1, e1, st1⟩ := getF X0 hx hZ hown (host := "") (Or.inl (hw _ (List.mem_of_getElem? (i := 14) rfl))) Via.refl e0 F_BMP_lastCodePoint (g := (mkF m 6 #[.val (.ref s_BMP), .val (.int ((own_bnd (p2 &&& (7 : Int32))) + ((p1 &&& (7 : Int32)) - (3 : Int32))))] [(.ref s_BMP), (.int ((own_bnd (p2 &&& (7 : Int32))) + ((p1 &&& (7 : Int32)) - (3 : Int32))))])) rfl rfl (hb hby d1_6)
  obtain ⟨fs, hr, hrun, hended, hW, hsame⟩ := X1.leave (v := some (.int (0 : Int32))) (fun h => by rw [Bd.returns] at h; cases h)
  refine ⟨_, _, pre0 _ ?_, hrun, hended, _, _, rfl, ?_, ⟨_, rfl⟩, hW, hsame.mono (by decide) (by decide)⟩
  · show Steps p.tables e below (s₁.setTop (mkF m 0 #[.val (.ref s_BMP), .val (.int ((own_bnd (p2 &&& (7 : Int32))) + ((p1 &&& (7 : Int32)) - (3 : Int32))))] [])) _
    refine XS.iloadN X0.here hx rfl (hb hby d1_0) rfl ?_
    show Steps p.tables e below (s₁.setTop (mkF m 1 #[.val (.ref s_BMP), .val (.int ((own_bnd (p2 &&& (7 : Int32))) + ((p1 &&& (7 : Int32)) - (3 : Int32))))] [(.int ((own_bnd (p2 &&& (7 : Int32))) + ((p1 &&& (7 : Int32)) - (3 : Int32))))])) _
    refine XS.ifNo X0.here hx rfl (hb hby d1_1) rfl hc_lt_0 ?_
    show Steps p.tables e below (s₁.setTop (mkF m 4 #[.val (.ref s_BMP), .val (.int ((own_bnd (p2 &&& (7 : Int32))) + ((p1 &&& (7 : Int32)) - (3 : Int32))))] [])) _
    refine XS.iloadN X0.here hx rfl (hb hby d1_4) rfl ?_
    show Steps p.tables e below (s₁.setTop (mkF m 5 #[.val (.ref s_BMP), .val (.int ((own_bnd (p2 &&& (7 : Int32))) + ((p1 &&& (7 : Int32)) - (3 : Int32))))] [(.int ((own_bnd (p2 &&& (7 : Int32))) + ((p1 &&& (7 : Int32)) - (3 : Int32))))])) _
    refine XS.aloadN X0.here hx rfl (hb hby d1_5) rfl rfl ?_
    show Steps p.tables e below (s₁.setTop (mkF m 6 #[.val (.ref s_BMP), .val (.int ((own_bnd (p2 &&& (7 : Int32))) + ((p1 &&& (7 : Int32)) - (3 : Int32))))] [(.ref s_BMP), (.int ((own_bnd (p2 &&& (7 : Int32))) + ((p1 &&& (7 : Int32)) - (3 : Int32))))])) _
    refine st1 _ ?_
    show Steps p.tables e below (T1.setTop (mkF m 9 #[.val (.ref s_BMP), .val (.int ((own_bnd (p2 &&& (7 : Int32))) + ((p1 &&& (7 : Int32)) - (3 : Int32))))] [(.int (65535 : Int32)), (.int ((own_bnd (p2 &&& (7 : Int32))) + ((p1 &&& (7 : Int32)) - (3 : Int32))))])) _
    refine XS.icmpYes X1.here hx rfl (pc0 := 9) (pc' := 28) rfl (hb hby d1_9) rfl hc_gt_65535 (by decide) (by decide) ?_
    show Steps p.tables e below (T1.setTop (mkF m 28 #[.val (.ref s_BMP), .val (.int ((own_bnd (p2 &&& (7 : Int32))) + ((p1 &&& (7 : Int32)) - (3 : Int32))))] [])) _
    refine XS.iconst X1.here hx rfl (hb hby d1_28) ?_
    show Steps p.tables e below (T1.setTop (mkF m 29 #[.val (.ref s_BMP), .val (.int ((own_bnd (p2 &&& (7 : Int32))) + ((p1 &&& (7 : Int32)) - (3 : Int32))))] [(.int (0 : Int32))])) _
    exact retN X1 hx (t := .boolean) Bd.returns (by simp) (hb hby d1_29) hr
  · exact ⟨rfl, N0, e1⟩
set_option maxRecDepth 65536 in
set_option maxHeartbeats 40000000 in
theorem law_k1_0_4 (l : Launch) (Z : State) (a0 : Array Value) (hw : ∀ d ∈ tables_1, d.before a0 Z = true) (ws : List Jvm.Cond) (h0 : Heap) (n0 : Nat) (s_IA5 : Addr) (s_BMP : Addr) (s_UTF8 : Addr) (K : Ctx Z h0 s_IA5 s_BMP s_UTF8) (p0 : Int32) (p1 : Int32) (p2 : Int32) (ha : ((p0 &&& (2147483647 : Int32)) % (3 : Int32)) = (1 : Int32)) (hb1 : (p2 &&& (8 : Int32)) = (0 : Int32)) (hc_lt_0 : ifCond.holds .lt ((own_bnd (p2 &&& (7 : Int32))) + ((p1 &&& (7 : Int32)) - (3 : Int32))) = false) (hc_lt_55296 : if_icmp.holds .lt ((own_bnd (p2 &&& (7 : Int32))) + ((p1 &&& (7 : Int32)) - (3 : Int32))) (55296 : Int32) = false) (hc_lt_57344 : if_icmp.holds .lt ((own_bnd (p2 &&& (7 : Int32))) + ((p1 &&& (7 : Int32)) - (3 : Int32))) (57344 : Int32) = false) (hc_gt_65535 : if_icmp.holds .gt ((own_bnd (p2 &&& (7 : Int32))) + ((p1 &&& (7 : Int32)) - (3 : Int32))) (65535 : Int32) = true) :
    MetFree l x (head1 (Jvm.Cond.code x code maxLocals ret :: ws) room_1) (fun a U => a = #[(.int p0), (.int p1), (.int p2)] ∧ Z.Warmed39 U.vm ∧ U.heap = h0) (fun _ _ _ _ _ => True) (fun _ U o U' => ∃ v L, o = .returned v ∧ QV (.int (1 : Int32)) h0 n0 v U'.heap L ∧ FrameEnd U o U' L room_1.cells room_1.slots) := by
  obtain ⟨S_IA5, E_IA5, F_IA5_lastCodePoint, S_BMP, E_BMP, F_BMP_lastCodePoint, S_UTF8, E_UTF8, F_UTF8_lastCodePoint⟩ := id K
  refine MetFree.of_bodySF (plainFor_of_name pn2) hisR ?_
  intro p e s m args below meth c s₁ Bd hml0 hP hK
  obtain ⟨rfl, hZ, hh⟩ := hP
  have hx := Bd.exec
  have hby := Bd.bytes
  have hml : c.maxLocals = 7 := hml0
  have hown : s.vm.findClass "com/example/plainwire/plainwire/definitions/RepertoireHoldsPinLaw" = some m.cls := findClass_of_methodNamed Bd.named
  have X0 : Stand p l e room_1 s m #[(.int p0), (.int p1), (.int p2)] below meth c s₁ [] 0 0 := Stand.of_body Bd
  have e0 : s₁.heap = h0 := by rw [← hh, Bd.state]; rfl
  have N0 := Fr.nil n0
  have pre0 : ∀ t, Steps p.tables e below (s₁.setTop (mkF m 0 #[.val (.int p0), .val (.int p1), .val (.int p2), .unset, .unset, .unset, .unset] [])) t → Steps p.tables e below (s₁.setTop (entryFrame m #[(.int p0), (.int p1), (.int p2)] maxLocals)) t := fun t k => castTop (by first | (simp [entryFrame, mkF, argsToLocals, Value.category, maxLocals]; done) | rfl) k
  obtain ⟨T1, X1, e1, st1⟩ := getS X0 hx hZ hown (host := "") (hw _ (List.mem_of_getElem? (i := 16) rfl)) Via.refl e0 S_BMP (g := (mkF m 24 #[.val (.int p0), .val (.int p1), .val (.int p2), .val (.int (1 : Int32)), .unset, .unset, .unset] [])) rfl (hb hby at_24)
  obtain ⟨_, _, ⟨T2, L2, k2, n2⟩, -, X2, ⟨Lc2, hQ2, l2, y2, z2⟩, st2⟩ := Jvm.LawKit.callS X1 hx (y := (⟨"com/example/plainwire/plainwire/definitions/RepertoireHoldsPinLaw", "boundary", "(I)I"⟩ : MethodName)) hown (mvT hZ (hw _ (List.mem_of_getElem? (i := 4) rfl))) (mvT hZ (hw _ (List.mem_of_getElem? (i := 5) rfl))) (mvT hZ (hw _ (List.mem_of_getElem? (i := 6) rfl))) (mvT hZ (hw _ (List.mem_of_getElem? (i := 7) rfl))) (by decide) (backOf (W := 0) (own_bndK l Z a0 hw [] h0 n0 s_IA5 s_BMP s_UTF8 K (p2 &&& (7 : Int32)) (own_and8 p2)) hZ (hw _ (List.mem_of_getElem? (i := 7) rfl)) (hw _ (List.mem_of_getElem? (i := 6) rfl)) (by decide) (by decide)) (g := (mkF m 54 #[.val (.int p0), .val (.int p1), .val (.int p2), .val (.int (1 : Int32)), .val (.ref s_BMP), .unset, .unset] [(.int (p2 &&& (7 : Int32)))])) rfl (by rw [hml]; rfl) (argsL := [(.int (p2 &&& (7 : Int32)))]) (rest := []) (lenOf pd0 rfl) rfl (by show 2 * 0 + _ ≤ _; exact Nat.le_of_eq rfl) (hb hby at_54) (fun _ _ => ⟨rfl, e1, (by decide : 0 + 0 ≤ _), (by decide : 0 + 0 ≤ _)⟩)
  dsimp only [Pt.U, Pt.locs, Pt.cells, Pt.slots] at X2 l2 y2 z2 st2 hQ2
  subst l2 y2 z2
  obtain ⟨rfl, N2q, e2⟩ := hQ2
  have N2 := Fr.app N0 N2q
  obtain ⟨cq3, kq3, q3a, q3b, q3c⟩ := isOf hZ e2 E_BMP
  obtain ⟨_, _, ⟨T3, L3, k3, n3⟩, -, X3, ⟨Lc3, hQ3, l3, y3, z3⟩, st3⟩ := X2.virtualBack hx (y := (⟨"com/example/plainwire/plainwire/definitions/Repertoire", "holds", "(I)Z"⟩ : MethodName)) (z := (⟨"com/example/plainwire/plainwire/definitions/Repertoire", "holds", "(I)Z"⟩ : MethodName)) hown (mvT hZ (hw _ (List.mem_of_getElem? (i := 9) rfl))) (mvT hZ (hw _ (List.mem_of_getElem? (i := 10) rfl))) (notFace_of_selects (args := #[]) (mvT hZ (hw _ (List.mem_of_getElem? (i := 12) rfl)))) (mvT hZ (hw _ (List.mem_of_getElem? (i := 12) rfl))) (mvT hZ (hw _ (List.mem_of_getElem? (i := 11) rfl))) (by decide) (backOf (W := 0) (r28 l Z a0 hw [] h0 n0 s_IA5 s_BMP s_UTF8 K p1 p2 hc_lt_0 hc_gt_65535) hZ (hw _ (List.mem_of_getElem? (i := 13) rfl)) (hw _ (List.mem_of_getElem? (i := 2) rfl)) (by decide) (by decide)) q3a q3c (g := (mkF m 170 #[.val (.int p0), .val (.int p1), .val (.int p2), .val (.int (1 : Int32)), .val (.ref s_BMP), .val (.int ((own_bnd (p2 &&& (7 : Int32))) + ((p1 &&& (7 : Int32)) - (3 : Int32)))), .val (.int (0 : Int32))] [(.int ((own_bnd (p2 &&& (7 : Int32))) + ((p1 &&& (7 : Int32)) - (3 : Int32)))), (.ref s_BMP)])) rfl (by rw [hml]; rfl) (Steps.refl _) (argsL := [(.int ((own_bnd (p2 &&& (7 : Int32))) + ((p1 &&& (7 : Int32)) - (3 : Int32))))]) (rest := []) (lenOf pd1 rfl) rfl (by show 2 * 0 + _ ≤ _; exact Nat.le_of_eq rfl) (hb hby at_170) (fun _ _ => ⟨rfl, e2, (by decide : 0 + 0 ≤ _), (by decide : 0 + 0 ≤ _)⟩)
  dsimp only [Pt.U, Pt.locs, Pt.cells, Pt.slots] at X3 l3 y3 z3 st3 hQ3
  subst l3 y3 z3
  obtain ⟨rfl, N3q, e3⟩ := hQ3
  have N3 := Fr.app N2 N3q
  obtain ⟨fs, hr, hrun, hended, hW, hsame⟩ := X3.leave (v := some (.int (1 : Int32))) (fun h => by rw [Bd.returns] at h; cases h)
  refine ⟨_, _, pre0 _ ?_, hrun, hended, _, _, rfl, ?_, ⟨_, rfl⟩, hW, hsame.mono (by decide) (by decide)⟩
  · show Steps p.tables e below (s₁.setTop (mkF m 0 #[.val (.int p0), .val (.int p1), .val (.int p2), .unset, .unset, .unset, .unset] [])) _
    refine XS.iloadN X0.here hx rfl (hb hby at_0) rfl ?_
    show Steps p.tables e below (s₁.setTop (mkF m 1 #[.val (.int p0), .val (.int p1), .val (.int p2), .unset, .unset, .unset, .unset] [(.int p0)])) _
    refine X0.ldcInt hx hown (mvT hZ (hw _ (List.mem_of_getElem? (i := 0) rfl))) (g := (mkF m 1 #[.val (.int p0), .val (.int p1), .val (.int p2), .unset, .unset, .unset, .unset] [(.int p0)])) rfl (hb hby at_1) _ ?_
    show Steps p.tables e below (s₁.setTop (mkF m 3 #[.val (.int p0), .val (.int p1), .val (.int p2), .unset, .unset, .unset, .unset] [(.int (2147483647 : Int32)), (.int p0)])) _
    refine XS.iand X0.here hx rfl (hb hby at_3) rfl ?_
    show Steps p.tables e below (s₁.setTop (mkF m 4 #[.val (.int p0), .val (.int p1), .val (.int p2), .unset, .unset, .unset, .unset] [(.int (p0 &&& (2147483647 : Int32)))])) _
    refine XS.iconst X0.here hx rfl (hb hby at_4) ?_
    show Steps p.tables e below (s₁.setTop (mkF m 5 #[.val (.int p0), .val (.int p1), .val (.int p2), .unset, .unset, .unset, .unset] [(.int (3 : Int32)), (.int (p0 &&& (2147483647 : Int32)))])) _
    refine Jvm.RoadKit.iremM X0 hx rfl (hb hby at_5) rfl (by decide) ?_
    show Steps p.tables e below (s₁.setTop (mkF m 6 #[.val (.int p0), .val (.int p1), .val (.int p2), .unset, .unset, .unset, .unset] [(.int ((p0 &&& (2147483647 : Int32)) % (3 : Int32)))])) _
    rw [ha]
    show Steps p.tables e below (s₁.setTop (mkF m 6 #[.val (.int p0), .val (.int p1), .val (.int p2), .unset, .unset, .unset, .unset] [(.int (1 : Int32))])) _
    refine XS.istoreN X0.here hx rfl (hb hby at_6) rfl (l' := #[.val (.int p0), .val (.int p1), .val (.int p2), .val (.int (1 : Int32)), .unset, .unset, .unset]) rfl ?_
    show Steps p.tables e below (s₁.setTop (mkF m 7 #[.val (.int p0), .val (.int p1), .val (.int p2), .val (.int (1 : Int32)), .unset, .unset, .unset] [])) _
    refine XS.iloadN X0.here hx rfl (hb hby at_7) rfl ?_
    show Steps p.tables e below (s₁.setTop (mkF m 8 #[.val (.int p0), .val (.int p1), .val (.int p2), .val (.int (1 : Int32)), .unset, .unset, .unset] [(.int (1 : Int32))])) _
    refine XS.ifYes X0.here hx rfl (pc0 := 8) (pc' := 19) rfl (hb hby at_8) rfl (by decide +kernel) (by decide) (by decide) ?_
    show Steps p.tables e below (s₁.setTop (mkF m 19 #[.val (.int p0), .val (.int p1), .val (.int p2), .val (.int (1 : Int32)), .unset, .unset, .unset] [])) _
    refine XS.iloadN X0.here hx rfl (hb hby at_19) rfl ?_
    show Steps p.tables e below (s₁.setTop (mkF m 20 #[.val (.int p0), .val (.int p1), .val (.int p2), .val (.int (1 : Int32)), .unset, .unset, .unset] [(.int (1 : Int32))])) _
    refine XS.iconst X0.here hx rfl (hb hby at_20) ?_
    show Steps p.tables e below (s₁.setTop (mkF m 21 #[.val (.int p0), .val (.int p1), .val (.int p2), .val (.int (1 : Int32)), .unset, .unset, .unset] [(.int (1 : Int32)), (.int (1 : Int32))])) _
    refine XS.icmpNo X0.here hx rfl (hb hby at_21) rfl (by decide +kernel) ?_
    show Steps p.tables e below (s₁.setTop (mkF m 24 #[.val (.int p0), .val (.int p1), .val (.int p2), .val (.int (1 : Int32)), .unset, .unset, .unset] [])) _
    refine st1 _ ?_
    show Steps p.tables e below (T1.setTop (mkF m 27 #[.val (.int p0), .val (.int p1), .val (.int p2), .val (.int (1 : Int32)), .unset, .unset, .unset] [(.ref s_BMP)])) _
    refine XS.astore X1.here hx rfl (hb hby at_27) rfl rfl (l' := #[.val (.int p0), .val (.int p1), .val (.int p2), .val (.int (1 : Int32)), .val (.ref s_BMP), .unset, .unset]) rfl ?_
    show Steps p.tables e below (T1.setTop (mkF m 29 #[.val (.int p0), .val (.int p1), .val (.int p2), .val (.int (1 : Int32)), .val (.ref s_BMP), .unset, .unset] [])) _
    refine XS.goto X1.here hx rfl (pc0 := 29) (pc' := 37) rfl (hb hby at_29) (by decide) (by decide) ?_
    show Steps p.tables e below (T1.setTop (mkF m 37 #[.val (.int p0), .val (.int p1), .val (.int p2), .val (.int (1 : Int32)), .val (.ref s_BMP), .unset, .unset] [])) _
    refine XS.iloadN X1.here hx rfl (hb hby at_37) rfl ?_
    show Steps p.tables e below (T1.setTop (mkF m 38 #[.val (.int p0), .val (.int p1), .val (.int p2), .val (.int (1 : Int32)), .val (.ref s_BMP), .unset, .unset] [(.int p2)])) _
    refine XS.bipush X1.here hx rfl (hb hby at_38) ?_
    show Steps p.tables e below (T1.setTop (mkF m 40 #[.val (.int p0), .val (.int p1), .val (.int p2), .val (.int (1 : Int32)), .val (.ref s_BMP), .unset, .unset] [(.int (8 : Int32)), (.int p2)])) _
    refine XS.iand X1.here hx rfl (hb hby at_40) rfl ?_
    show Steps p.tables e below (T1.setTop (mkF m 41 #[.val (.int p0), .val (.int p1), .val (.int p2), .val (.int (1 : Int32)), .val (.ref s_BMP), .unset, .unset] [(.int (p2 &&& (8 : Int32)))])) _
    rw [hb1]
    show Steps p.tables e below (T1.setTop (mkF m 41 #[.val (.int p0), .val (.int p1), .val (.int p2), .val (.int (1 : Int32)), .val (.ref s_BMP), .unset, .unset] [(.int (0 : Int32))])) _
    refine XS.ifYes X1.here hx rfl (pc0 := 41) (pc' := 50) rfl (hb hby at_41) rfl (by decide +kernel) (by decide) (by decide) ?_
    show Steps p.tables e below (T1.setTop (mkF m 50 #[.val (.int p0), .val (.int p1), .val (.int p2), .val (.int (1 : Int32)), .val (.ref s_BMP), .unset, .unset] [])) _
    refine XS.iloadN X1.here hx rfl (hb hby at_50) rfl ?_
    show Steps p.tables e below (T1.setTop (mkF m 51 #[.val (.int p0), .val (.int p1), .val (.int p2), .val (.int (1 : Int32)), .val (.ref s_BMP), .unset, .unset] [(.int p2)])) _
    refine XS.bipush X1.here hx rfl (hb hby at_51) ?_
    show Steps p.tables e below (T1.setTop (mkF m 53 #[.val (.int p0), .val (.int p1), .val (.int p2), .val (.int (1 : Int32)), .val (.ref s_BMP), .unset, .unset] [(.int (7 : Int32)), (.int p2)])) _
    refine XS.iand X1.here hx rfl (hb hby at_53) rfl ?_
    show Steps p.tables e below (T1.setTop (mkF m 54 #[.val (.int p0), .val (.int p1), .val (.int p2), .val (.int (1 : Int32)), .val (.ref s_BMP), .unset, .unset] [(.int (p2 &&& (7 : Int32)))])) _
    refine st2 _ ?_
    show Steps p.tables e below (T2.setTop (mkF m 57 #[.val (.int p0), .val (.int p1), .val (.int p2), .val (.int (1 : Int32)), .val (.ref s_BMP), .unset, .unset] [(.int (own_bnd (p2 &&& (7 : Int32))))])) _
    refine XS.iloadN X2.here hx rfl (hb hby at_57) rfl ?_
    show Steps p.tables e below (T2.setTop (mkF m 58 #[.val (.int p0), .val (.int p1), .val (.int p2), .val (.int (1 : Int32)), .val (.ref s_BMP), .unset, .unset] [(.int p1), (.int (own_bnd (p2 &&& (7 : Int32))))])) _
    refine XS.bipush X2.here hx rfl (hb hby at_58) ?_
    show Steps p.tables e below (T2.setTop (mkF m 60 #[.val (.int p0), .val (.int p1), .val (.int p2), .val (.int (1 : Int32)), .val (.ref s_BMP), .unset, .unset] [(.int (7 : Int32)), (.int p1), (.int (own_bnd (p2 &&& (7 : Int32))))])) _
    refine XS.iand X2.here hx rfl (hb hby at_60) rfl ?_
    show Steps p.tables e below (T2.setTop (mkF m 61 #[.val (.int p0), .val (.int p1), .val (.int p2), .val (.int (1 : Int32)), .val (.ref s_BMP), .unset, .unset] [(.int (p1 &&& (7 : Int32))), (.int (own_bnd (p2 &&& (7 : Int32))))])) _
    refine XS.iconst X2.here hx rfl (hb hby at_61) ?_
    show Steps p.tables e below (T2.setTop (mkF m 62 #[.val (.int p0), .val (.int p1), .val (.int p2), .val (.int (1 : Int32)), .val (.ref s_BMP), .unset, .unset] [(.int (3 : Int32)), (.int (p1 &&& (7 : Int32))), (.int (own_bnd (p2 &&& (7 : Int32))))])) _
    refine XS.isub X2.here hx rfl (hb hby at_62) rfl ?_
    show Steps p.tables e below (T2.setTop (mkF m 63 #[.val (.int p0), .val (.int p1), .val (.int p2), .val (.int (1 : Int32)), .val (.ref s_BMP), .unset, .unset] [(.int ((p1 &&& (7 : Int32)) - (3 : Int32))), (.int (own_bnd (p2 &&& (7 : Int32))))])) _
    refine XS.iadd X2.here hx rfl (hb hby at_63) rfl ?_
    show Steps p.tables e below (T2.setTop (mkF m 64 #[.val (.int p0), .val (.int p1), .val (.int p2), .val (.int (1 : Int32)), .val (.ref s_BMP), .unset, .unset] [(.int ((own_bnd (p2 &&& (7 : Int32))) + ((p1 &&& (7 : Int32)) - (3 : Int32))))])) _
    refine XS.istore X2.here hx rfl (hb hby at_64) rfl (l' := #[.val (.int p0), .val (.int p1), .val (.int p2), .val (.int (1 : Int32)), .val (.ref s_BMP), .val (.int ((own_bnd (p2 &&& (7 : Int32))) + ((p1 &&& (7 : Int32)) - (3 : Int32)))), .unset]) rfl ?_
    show Steps p.tables e below (T2.setTop (mkF m 66 #[.val (.int p0), .val (.int p1), .val (.int p2), .val (.int (1 : Int32)), .val (.ref s_BMP), .val (.int ((own_bnd (p2 &&& (7 : Int32))) + ((p1 &&& (7 : Int32)) - (3 : Int32)))), .unset] [])) _
    refine XS.iloadN X2.here hx rfl (hb hby at_66) rfl ?_
    show Steps p.tables e below (T2.setTop (mkF m 67 #[.val (.int p0), .val (.int p1), .val (.int p2), .val (.int (1 : Int32)), .val (.ref s_BMP), .val (.int ((own_bnd (p2 &&& (7 : Int32))) + ((p1 &&& (7 : Int32)) - (3 : Int32)))), .unset] [(.int (1 : Int32))])) _
    refine XS.ifYes X2.here hx rfl (pc0 := 67) (pc' := 92) rfl (hb hby at_67) rfl (by decide +kernel) (by decide) (by decide) ?_
    show Steps p.tables e below (T2.setTop (mkF m 92 #[.val (.int p0), .val (.int p1), .val (.int p2), .val (.int (1 : Int32)), .val (.ref s_BMP), .val (.int ((own_bnd (p2 &&& (7 : Int32))) + ((p1 &&& (7 : Int32)) - (3 : Int32)))), .unset] [])) _
    refine XS.iloadN X2.here hx rfl (hb hby at_92) rfl ?_
    show Steps p.tables e below (T2.setTop (mkF m 93 #[.val (.int p0), .val (.int p1), .val (.int p2), .val (.int (1 : Int32)), .val (.ref s_BMP), .val (.int ((own_bnd (p2 &&& (7 : Int32))) + ((p1 &&& (7 : Int32)) - (3 : Int32)))), .unset] [(.int (1 : Int32))])) _
    refine XS.iconst X2.here hx rfl (hb hby at_93) ?_
    show Steps p.tables e below (T2.setTop (mkF m 94 #[.val (.int p0), .val (.int p1), .val (.int p2), .val (.int (1 : Int32)), .val (.ref s_BMP), .val (.int ((own_bnd (p2 &&& (7 : Int32))) + ((p1 &&& (7 : Int32)) - (3 : Int32)))), .unset] [(.int (1 : Int32)), (.int (1 : Int32))])) _
    refine XS.icmpNo X2.here hx rfl (hb hby at_94) rfl (by decide +kernel) ?_
    show Steps p.tables e below (T2.setTop (mkF m 97 #[.val (.int p0), .val (.int p1), .val (.int p2), .val (.int (1 : Int32)), .val (.ref s_BMP), .val (.int ((own_bnd (p2 &&& (7 : Int32))) + ((p1 &&& (7 : Int32)) - (3 : Int32)))), .unset] [])) _
    refine XS.iload X2.here hx rfl (hb hby at_97) rfl ?_
    show Steps p.tables e below (T2.setTop (mkF m 99 #[.val (.int p0), .val (.int p1), .val (.int p2), .val (.int (1 : Int32)), .val (.ref s_BMP), .val (.int ((own_bnd (p2 &&& (7 : Int32))) + ((p1 &&& (7 : Int32)) - (3 : Int32)))), .unset] [(.int ((own_bnd (p2 &&& (7 : Int32))) + ((p1 &&& (7 : Int32)) - (3 : Int32))))])) _
    refine XS.ifNo X2.here hx rfl (hb hby at_99) rfl hc_lt_0 ?_
    show Steps p.tables e below (T2.setTop (mkF m 102 #[.val (.int p0), .val (.int p1), .val (.int p2), .val (.int (1 : Int32)), .val (.ref s_BMP), .val (.int ((own_bnd (p2 &&& (7 : Int32))) + ((p1 &&& (7 : Int32)) - (3 : Int32)))), .unset] [])) _
    refine XS.iload X2.here hx rfl (hb hby at_102) rfl ?_
    show Steps p.tables e below (T2.setTop (mkF m 104 #[.val (.int p0), .val (.int p1), .val (.int p2), .val (.int (1 : Int32)), .val (.ref s_BMP), .val (.int ((own_bnd (p2 &&& (7 : Int32))) + ((p1 &&& (7 : Int32)) - (3 : Int32)))), .unset] [(.int ((own_bnd (p2 &&& (7 : Int32))) + ((p1 &&& (7 : Int32)) - (3 : Int32))))])) _
    refine X2.ldcInt hx hown (mvT hZ (hw _ (List.mem_of_getElem? (i := 8) rfl))) (g := (mkF m 104 #[.val (.int p0), .val (.int p1), .val (.int p2), .val (.int (1 : Int32)), .val (.ref s_BMP), .val (.int ((own_bnd (p2 &&& (7 : Int32))) + ((p1 &&& (7 : Int32)) - (3 : Int32)))), .unset] [(.int ((own_bnd (p2 &&& (7 : Int32))) + ((p1 &&& (7 : Int32)) - (3 : Int32))))])) rfl (hb hby at_104) _ ?_
    show Steps p.tables e below (T2.setTop (mkF m 106 #[.val (.int p0), .val (.int p1), .val (.int p2), .val (.int (1 : Int32)), .val (.ref s_BMP), .val (.int ((own_bnd (p2 &&& (7 : Int32))) + ((p1 &&& (7 : Int32)) - (3 : Int32)))), .unset] [(.int (55296 : Int32)), (.int ((own_bnd (p2 &&& (7 : Int32))) + ((p1 &&& (7 : Int32)) - (3 : Int32))))])) _
    refine XS.icmpNo X2.here hx rfl (hb hby at_106) rfl hc_lt_55296 ?_
    show Steps p.tables e below (T2.setTop (mkF m 109 #[.val (.int p0), .val (.int p1), .val (.int p2), .val (.int (1 : Int32)), .val (.ref s_BMP), .val (.int ((own_bnd (p2 &&& (7 : Int32))) + ((p1 &&& (7 : Int32)) - (3 : Int32)))), .unset] [])) _
    refine XS.iload X2.here hx rfl (hb hby at_109) rfl ?_
    show Steps p.tables e below (T2.setTop (mkF m 111 #[.val (.int p0), .val (.int p1), .val (.int p2), .val (.int (1 : Int32)), .val (.ref s_BMP), .val (.int ((own_bnd (p2 &&& (7 : Int32))) + ((p1 &&& (7 : Int32)) - (3 : Int32)))), .unset] [(.int ((own_bnd (p2 &&& (7 : Int32))) + ((p1 &&& (7 : Int32)) - (3 : Int32))))])) _
    refine X2.ldcInt hx hown (mvT hZ (hw _ (List.mem_of_getElem? (i := 19) rfl))) (g := (mkF m 111 #[.val (.int p0), .val (.int p1), .val (.int p2), .val (.int (1 : Int32)), .val (.ref s_BMP), .val (.int ((own_bnd (p2 &&& (7 : Int32))) + ((p1 &&& (7 : Int32)) - (3 : Int32)))), .unset] [(.int ((own_bnd (p2 &&& (7 : Int32))) + ((p1 &&& (7 : Int32)) - (3 : Int32))))])) rfl (hb hby at_111) _ ?_
    show Steps p.tables e below (T2.setTop (mkF m 113 #[.val (.int p0), .val (.int p1), .val (.int p2), .val (.int (1 : Int32)), .val (.ref s_BMP), .val (.int ((own_bnd (p2 &&& (7 : Int32))) + ((p1 &&& (7 : Int32)) - (3 : Int32)))), .unset] [(.int (57344 : Int32)), (.int ((own_bnd (p2 &&& (7 : Int32))) + ((p1 &&& (7 : Int32)) - (3 : Int32))))])) _
    refine XS.icmpNo X2.here hx rfl (hb hby at_113) rfl hc_lt_57344 ?_
    show Steps p.tables e below (T2.setTop (mkF m 116 #[.val (.int p0), .val (.int p1), .val (.int p2), .val (.int (1 : Int32)), .val (.ref s_BMP), .val (.int ((own_bnd (p2 &&& (7 : Int32))) + ((p1 &&& (7 : Int32)) - (3 : Int32)))), .unset] [])) _
    refine XS.iload X2.here hx rfl (hb hby at_116) rfl ?_
    show Steps p.tables e below (T2.setTop (mkF m 118 #[.val (.int p0), .val (.int p1), .val (.int p2), .val (.int (1 : Int32)), .val (.ref s_BMP), .val (.int ((own_bnd (p2 &&& (7 : Int32))) + ((p1 &&& (7 : Int32)) - (3 : Int32)))), .unset] [(.int ((own_bnd (p2 &&& (7 : Int32))) + ((p1 &&& (7 : Int32)) - (3 : Int32))))])) _
    refine X2.ldcInt hx hown (mvT hZ (hw _ (List.mem_of_getElem? (i := 20) rfl))) (g := (mkF m 118 #[.val (.int p0), .val (.int p1), .val (.int p2), .val (.int (1 : Int32)), .val (.ref s_BMP), .val (.int ((own_bnd (p2 &&& (7 : Int32))) + ((p1 &&& (7 : Int32)) - (3 : Int32)))), .unset] [(.int ((own_bnd (p2 &&& (7 : Int32))) + ((p1 &&& (7 : Int32)) - (3 : Int32))))])) rfl (hb hby at_118) _ ?_
    show Steps p.tables e below (T2.setTop (mkF m 120 #[.val (.int p0), .val (.int p1), .val (.int p2), .val (.int (1 : Int32)), .val (.ref s_BMP), .val (.int ((own_bnd (p2 &&& (7 : Int32))) + ((p1 &&& (7 : Int32)) - (3 : Int32)))), .unset] [(.int (65535 : Int32)), (.int ((own_bnd (p2 &&& (7 : Int32))) + ((p1 &&& (7 : Int32)) - (3 : Int32))))])) _
    refine XS.icmpYes X2.here hx rfl (pc0 := 120) (pc' := 127) rfl (hb hby at_120) rfl hc_gt_65535 (by decide) (by decide) ?_
    show Steps p.tables e below (T2.setTop (mkF m 127 #[.val (.int p0), .val (.int p1), .val (.int p2), .val (.int (1 : Int32)), .val (.ref s_BMP), .val (.int ((own_bnd (p2 &&& (7 : Int32))) + ((p1 &&& (7 : Int32)) - (3 : Int32)))), .unset] [])) _
    refine XS.iconst X2.here hx rfl (hb hby at_127) ?_
    show Steps p.tables e below (T2.setTop (mkF m 128 #[.val (.int p0), .val (.int p1), .val (.int p2), .val (.int (1 : Int32)), .val (.ref s_BMP), .val (.int ((own_bnd (p2 &&& (7 : Int32))) + ((p1 &&& (7 : Int32)) - (3 : Int32)))), .unset] [(.int (0 : Int32))])) _
    refine XS.istore X2.here hx rfl (hb hby at_128) rfl (l' := #[.val (.int p0), .val (.int p1), .val (.int p2), .val (.int (1 : Int32)), .val (.ref s_BMP), .val (.int ((own_bnd (p2 &&& (7 : Int32))) + ((p1 &&& (7 : Int32)) - (3 : Int32)))), .val (.int (0 : Int32))]) rfl ?_
    show Steps p.tables e below (T2.setTop (mkF m 130 #[.val (.int p0), .val (.int p1), .val (.int p2), .val (.int (1 : Int32)), .val (.ref s_BMP), .val (.int ((own_bnd (p2 &&& (7 : Int32))) + ((p1 &&& (7 : Int32)) - (3 : Int32)))), .val (.int (0 : Int32))] [])) _
    refine XS.goto X2.here hx rfl (pc0 := 130) (pc' := 166) rfl (hb hby at_130) (by decide) (by decide) ?_
    show Steps p.tables e below (T2.setTop (mkF m 166 #[.val (.int p0), .val (.int p1), .val (.int p2), .val (.int (1 : Int32)), .val (.ref s_BMP), .val (.int ((own_bnd (p2 &&& (7 : Int32))) + ((p1 &&& (7 : Int32)) - (3 : Int32)))), .val (.int (0 : Int32))] [])) _
    refine XS.aload X2.here hx rfl (hb hby at_166) rfl rfl ?_
    show Steps p.tables e below (T2.setTop (mkF m 168 #[.val (.int p0), .val (.int p1), .val (.int p2), .val (.int (1 : Int32)), .val (.ref s_BMP), .val (.int ((own_bnd (p2 &&& (7 : Int32))) + ((p1 &&& (7 : Int32)) - (3 : Int32)))), .val (.int (0 : Int32))] [(.ref s_BMP)])) _
    refine XS.iload X2.here hx rfl (hb hby at_168) rfl ?_
    show Steps p.tables e below (T2.setTop (mkF m 170 #[.val (.int p0), .val (.int p1), .val (.int p2), .val (.int (1 : Int32)), .val (.ref s_BMP), .val (.int ((own_bnd (p2 &&& (7 : Int32))) + ((p1 &&& (7 : Int32)) - (3 : Int32)))), .val (.int (0 : Int32))] [(.int ((own_bnd (p2 &&& (7 : Int32))) + ((p1 &&& (7 : Int32)) - (3 : Int32)))), (.ref s_BMP)])) _
    refine st3.trans ?_
    show Steps p.tables e below (T3.setTop (mkF m 173 #[.val (.int p0), .val (.int p1), .val (.int p2), .val (.int (1 : Int32)), .val (.ref s_BMP), .val (.int ((own_bnd (p2 &&& (7 : Int32))) + ((p1 &&& (7 : Int32)) - (3 : Int32)))), .val (.int (0 : Int32))] [(.int (0 : Int32))])) _
    refine XS.iload X3.here hx rfl (hb hby at_173) rfl ?_
    show Steps p.tables e below (T3.setTop (mkF m 175 #[.val (.int p0), .val (.int p1), .val (.int p2), .val (.int (1 : Int32)), .val (.ref s_BMP), .val (.int ((own_bnd (p2 &&& (7 : Int32))) + ((p1 &&& (7 : Int32)) - (3 : Int32)))), .val (.int (0 : Int32))] [(.int (0 : Int32)), (.int (0 : Int32))])) _
    refine XS.icmpNo X3.here hx rfl (hb hby at_175) rfl (by decide +kernel) ?_
    show Steps p.tables e below (T3.setTop (mkF m 178 #[.val (.int p0), .val (.int p1), .val (.int p2), .val (.int (1 : Int32)), .val (.ref s_BMP), .val (.int ((own_bnd (p2 &&& (7 : Int32))) + ((p1 &&& (7 : Int32)) - (3 : Int32)))), .val (.int (0 : Int32))] [])) _
    refine XS.iconst X3.here hx rfl (hb hby at_178) ?_
    show Steps p.tables e below (T3.setTop (mkF m 179 #[.val (.int p0), .val (.int p1), .val (.int p2), .val (.int (1 : Int32)), .val (.ref s_BMP), .val (.int ((own_bnd (p2 &&& (7 : Int32))) + ((p1 &&& (7 : Int32)) - (3 : Int32)))), .val (.int (0 : Int32))] [(.int (1 : Int32))])) _
    refine XS.goto X3.here hx rfl (pc0 := 179) (pc' := 183) rfl (hb hby at_179) (by decide) (by decide) ?_
    show Steps p.tables e below (T3.setTop (mkF m 183 #[.val (.int p0), .val (.int p1), .val (.int p2), .val (.int (1 : Int32)), .val (.ref s_BMP), .val (.int ((own_bnd (p2 &&& (7 : Int32))) + ((p1 &&& (7 : Int32)) - (3 : Int32)))), .val (.int (0 : Int32))] [(.int (1 : Int32))])) _
    exact retN X3 hx (t := .boolean) Bd.returns (by simp) (hb hby at_183) hr
  · exact ⟨rfl, N3, e3⟩
set_option maxRecDepth 65536 in
set_option maxHeartbeats 40000000 in
theorem r30 (l : Launch) (Z : State) (a0 : Array Value) (hw : ∀ d ∈ tables_1, d.before a0 Z = true) (ws : List Jvm.Cond) (h0 : Heap) (n0 : Nat) (s_IA5 : Addr) (s_BMP : Addr) (s_UTF8 : Addr) (K : Ctx Z h0 s_IA5 s_BMP s_UTF8) (p1 : Int32) (hc_lt_0 : ifCond.holds .lt p1 = true) :
    MetFree l (⟨"com/example/plainwire/plainwire/definitions/Repertoire", "holds", "(I)Z"⟩ : MethodName) (head1 (Jvm.Cond.code (⟨"com/example/plainwire/plainwire/definitions/Repertoire", "holds", "(I)Z"⟩ : MethodName) prog_37_method_5_code 2 (some .boolean) :: ws) ({ frames := 0, cells := 0, slots := 0, locals := 0 } : Room)) (fun a U => a = #[(.ref s_BMP), (.int p1)] ∧ Z.Warmed39 U.vm ∧ U.heap = h0) (fun _ _ _ _ _ => True) (fun _ U o U' => ∃ v L, o = .returned v ∧ QV (.int (0 : Int32)) h0 n0 v U'.heap L ∧ FrameEnd U o U' L ({ frames := 0, cells := 0, slots := 0, locals := 0 } : Room).cells ({ frames := 0, cells := 0, slots := 0, locals := 0 } : Room).slots) := by
  obtain ⟨S_IA5, E_IA5, F_IA5_lastCodePoint, S_BMP, E_BMP, F_BMP_lastCodePoint, S_UTF8, E_UTF8, F_UTF8_lastCodePoint⟩ := id K
  refine MetFree.of_bodySF (plainFor_of_name pn1) hisR ?_
  intro p e s m args below meth c s₁ Bd hml0 hP hK
  obtain ⟨rfl, hZ, hh⟩ := hP
  have hx := Bd.exec
  have hby := Bd.bytes
  have hml : c.maxLocals = 2 := hml0
  have hown : s.vm.findClass "com/example/plainwire/plainwire/definitions/Repertoire" = some m.cls := findClass_of_methodNamed Bd.named
  have X0 : Stand p l e ({ frames := 0, cells := 0, slots := 0, locals := 0 } : Room) s m #[(.ref s_BMP), (.int p1)] below meth c s₁ [] 0 0 := Stand.of_body Bd
  have e0 : s₁.heap = h0 := by rw [← hh, Bd.state]; rfl
  have N0 := Fr.nil n0
  have pre0 : ∀ t, Steps p.tables e below (s₁.setTop (mkF m 0 #[.val (.ref s_BMP), .val (.int p1)] [])) t → Steps p.tables e below (s₁.setTop (entryFrame m #[(.ref s_BMP), (.int p1)] 2)) t := fun t k => castTop (by first | (simp [entryFrame, mkF, argsToLocals, Value.category]; done) | rfl) k
  obtain ⟨fs, hr, hrun, hended, hW, hsame⟩ := X0.leave (v := some (.int (0 : Int32))) (fun h => by rw [Bd.returns] at h; cases h)
  refine ⟨_, _, pre0 _ ?_, hrun, hended, _, _, rfl, ?_, ⟨_, rfl⟩, hW, hsame.mono (by decide) (by decide)⟩
  · show Steps p.tables e below (s₁.setTop (mkF m 0 #[.val (.ref s_BMP), .val (.int p1)] [])) _
    refine XS.iloadN X0.here hx rfl (hb hby d1_0) rfl ?_
    show Steps p.tables e below (s₁.setTop (mkF m 1 #[.val (.ref s_BMP), .val (.int p1)] [(.int p1)])) _
    refine XS.ifYes X0.here hx rfl (pc0 := 1) (pc' := 28) rfl (hb hby d1_1) rfl hc_lt_0 (by decide) (by decide) ?_
    show Steps p.tables e below (s₁.setTop (mkF m 28 #[.val (.ref s_BMP), .val (.int p1)] [])) _
    refine XS.iconst X0.here hx rfl (hb hby d1_28) ?_
    show Steps p.tables e below (s₁.setTop (mkF m 29 #[.val (.ref s_BMP), .val (.int p1)] [(.int (0 : Int32))])) _
    exact retN X0 hx (t := .boolean) Bd.returns (by simp) (hb hby d1_29) hr
  · exact ⟨rfl, N0, e0⟩
set_option maxRecDepth 65536 in
set_option maxHeartbeats 40000000 in
theorem law_k1_8_0 (l : Launch) (Z : State) (a0 : Array Value) (hw : ∀ d ∈ tables_1, d.before a0 Z = true) (ws : List Jvm.Cond) (h0 : Heap) (n0 : Nat) (s_IA5 : Addr) (s_BMP : Addr) (s_UTF8 : Addr) (K : Ctx Z h0 s_IA5 s_BMP s_UTF8) (p0 : Int32) (p1 : Int32) (p2 : Int32) (ha : ((p0 &&& (2147483647 : Int32)) % (3 : Int32)) = (1 : Int32)) (hb1 : (p2 &&& (8 : Int32)) = (8 : Int32)) (hc_lt_0 : ifCond.holds .lt p1 = true) (hc_lt_57344 : if_icmp.holds .lt p1 (57344 : Int32) = true) :
    MetFree l x (head1 (Jvm.Cond.code x code maxLocals ret :: ws) room_1) (fun a U => a = #[(.int p0), (.int p1), (.int p2)] ∧ Z.Warmed39 U.vm ∧ U.heap = h0) (fun _ _ _ _ _ => True) (fun _ U o U' => ∃ v L, o = .returned v ∧ QV (.int (1 : Int32)) h0 n0 v U'.heap L ∧ FrameEnd U o U' L room_1.cells room_1.slots) := by
  obtain ⟨S_IA5, E_IA5, F_IA5_lastCodePoint, S_BMP, E_BMP, F_BMP_lastCodePoint, S_UTF8, E_UTF8, F_UTF8_lastCodePoint⟩ := id K
  refine MetFree.of_bodySF (plainFor_of_name pn2) hisR ?_
  intro p e s m args below meth c s₁ Bd hml0 hP hK
  obtain ⟨rfl, hZ, hh⟩ := hP
  have hx := Bd.exec
  have hby := Bd.bytes
  have hml : c.maxLocals = 7 := hml0
  have hown : s.vm.findClass "com/example/plainwire/plainwire/definitions/RepertoireHoldsPinLaw" = some m.cls := findClass_of_methodNamed Bd.named
  have X0 : Stand p l e room_1 s m #[(.int p0), (.int p1), (.int p2)] below meth c s₁ [] 0 0 := Stand.of_body Bd
  have e0 : s₁.heap = h0 := by rw [← hh, Bd.state]; rfl
  have N0 := Fr.nil n0
  have pre0 : ∀ t, Steps p.tables e below (s₁.setTop (mkF m 0 #[.val (.int p0), .val (.int p1), .val (.int p2), .unset, .unset, .unset, .unset] [])) t → Steps p.tables e below (s₁.setTop (entryFrame m #[(.int p0), (.int p1), (.int p2)] maxLocals)) t := fun t k => castTop (by first | (simp [entryFrame, mkF, argsToLocals, Value.category, maxLocals]; done) | rfl) k
  obtain ⟨T1, X1, e1, st1⟩ := getS X0 hx hZ hown (host := "") (hw _ (List.mem_of_getElem? (i := 16) rfl)) Via.refl e0 S_BMP (g := (mkF m 24 #[.val (.int p0), .val (.int p1), .val (.int p2), .val (.int (1 : Int32)), .unset, .unset, .unset] [])) rfl (hb hby at_24)
  obtain ⟨cq2, kq2, q2a, q2b, q2c⟩ := isOf hZ e1 E_BMP
  obtain ⟨_, _, ⟨T2, L2, k2, n2⟩, -, X2, ⟨Lc2, hQ2, l2, y2, z2⟩, st2⟩ := X1.virtualBack hx (y := (⟨"com/example/plainwire/plainwire/definitions/Repertoire", "holds", "(I)Z"⟩ : MethodName)) (z := (⟨"com/example/plainwire/plainwire/definitions/Repertoire", "holds", "(I)Z"⟩ : MethodName)) hown (mvT hZ (hw _ (List.mem_of_getElem? (i := 9) rfl))) (mvT hZ (hw _ (List.mem_of_getElem? (i := 10) rfl))) (notFace_of_selects (args := #[]) (mvT hZ (hw _ (List.mem_of_getElem? (i := 12) rfl)))) (mvT hZ (hw _ (List.mem_of_getElem? (i := 12) rfl))) (mvT hZ (hw _ (List.mem_of_getElem? (i := 11) rfl))) (by decide) (backOf (W := 0) (r30 l Z a0 hw [] h0 n0 s_IA5 s_BMP s_UTF8 K p1 hc_lt_0) hZ (hw _ (List.mem_of_getElem? (i := 13) rfl)) (hw _ (List.mem_of_getElem? (i := 2) rfl)) (by decide) (by decide)) q2a q2c (g := (mkF m 170 #[.val (.int p0), .val (.int p1), .val (.int p2), .val (.int (1 : Int32)), .val (.ref s_BMP), .val (.int p1), .val (.int (0 : Int32))] [(.int p1), (.ref s_BMP)])) rfl (by rw [hml]; rfl) (Steps.refl _) (argsL := [(.int p1)]) (rest := []) (lenOf pd1 rfl) rfl (by show 2 * 0 + _ ≤ _; exact Nat.le_of_eq rfl) (hb hby at_170) (fun _ _ => ⟨rfl, e1, (by decide : 0 + 0 ≤ _), (by decide : 0 + 0 ≤ _)⟩)
  dsimp only [Pt.U, Pt.locs, Pt.cells, Pt.slots] at X2 l2 y2 z2 st2 hQ2
  subst l2 y2 z2
  obtain ⟨rfl, N2q, e2⟩ := hQ2
  have N2 := Fr.app N0 N2q
  obtain ⟨fs, hr, hrun, hended, hW, hsame⟩ := X2.leave (v := some (.int (1 : Int32))) (fun h => by rw [Bd.returns] at h; cases h)
  refine ⟨_, _, pre0 _ ?_, hrun, hended, _, _, rfl, ?_, ⟨_, rfl⟩, hW, hsame.mono (by decide) (by decide)⟩
  · show Steps p.tables e below (s₁.setTop (mkF m 0 #[.val (.int p0), .val (.int p1), .val (.int p2), .unset, .unset, .unset, .unset] [])) _
    refine XS.iloadN X0.here hx rfl (hb hby at_0) rfl ?_
    show Steps p.tables e below (s₁.setTop (mkF m 1 #[.val (.int p0), .val (.int p1), .val (.int p2), .unset, .unset, .unset, .unset] [(.int p0)])) _
    refine X0.ldcInt hx hown (mvT hZ (hw _ (List.mem_of_getElem? (i := 0) rfl))) (g := (mkF m 1 #[.val (.int p0), .val (.int p1), .val (.int p2), .unset, .unset, .unset, .unset] [(.int p0)])) rfl (hb hby at_1) _ ?_
    show Steps p.tables e below (s₁.setTop (mkF m 3 #[.val (.int p0), .val (.int p1), .val (.int p2), .unset, .unset, .unset, .unset] [(.int (2147483647 : Int32)), (.int p0)])) _
    refine XS.iand X0.here hx rfl (hb hby at_3) rfl ?_
    show Steps p.tables e below (s₁.setTop (mkF m 4 #[.val (.int p0), .val (.int p1), .val (.int p2), .unset, .unset, .unset, .unset] [(.int (p0 &&& (2147483647 : Int32)))])) _
    refine XS.iconst X0.here hx rfl (hb hby at_4) ?_
    show Steps p.tables e below (s₁.setTop (mkF m 5 #[.val (.int p0), .val (.int p1), .val (.int p2), .unset, .unset, .unset, .unset] [(.int (3 : Int32)), (.int (p0 &&& (2147483647 : Int32)))])) _
    refine Jvm.RoadKit.iremM X0 hx rfl (hb hby at_5) rfl (by decide) ?_
    show Steps p.tables e below (s₁.setTop (mkF m 6 #[.val (.int p0), .val (.int p1), .val (.int p2), .unset, .unset, .unset, .unset] [(.int ((p0 &&& (2147483647 : Int32)) % (3 : Int32)))])) _
    rw [ha]
    show Steps p.tables e below (s₁.setTop (mkF m 6 #[.val (.int p0), .val (.int p1), .val (.int p2), .unset, .unset, .unset, .unset] [(.int (1 : Int32))])) _
    refine XS.istoreN X0.here hx rfl (hb hby at_6) rfl (l' := #[.val (.int p0), .val (.int p1), .val (.int p2), .val (.int (1 : Int32)), .unset, .unset, .unset]) rfl ?_
    show Steps p.tables e below (s₁.setTop (mkF m 7 #[.val (.int p0), .val (.int p1), .val (.int p2), .val (.int (1 : Int32)), .unset, .unset, .unset] [])) _
    refine XS.iloadN X0.here hx rfl (hb hby at_7) rfl ?_
    show Steps p.tables e below (s₁.setTop (mkF m 8 #[.val (.int p0), .val (.int p1), .val (.int p2), .val (.int (1 : Int32)), .unset, .unset, .unset] [(.int (1 : Int32))])) _
    refine XS.ifYes X0.here hx rfl (pc0 := 8) (pc' := 19) rfl (hb hby at_8) rfl (by decide +kernel) (by decide) (by decide) ?_
    show Steps p.tables e below (s₁.setTop (mkF m 19 #[.val (.int p0), .val (.int p1), .val (.int p2), .val (.int (1 : Int32)), .unset, .unset, .unset] [])) _
    refine XS.iloadN X0.here hx rfl (hb hby at_19) rfl ?_
    show Steps p.tables e below (s₁.setTop (mkF m 20 #[.val (.int p0), .val (.int p1), .val (.int p2), .val (.int (1 : Int32)), .unset, .unset, .unset] [(.int (1 : Int32))])) _
    refine XS.iconst X0.here hx rfl (hb hby at_20) ?_
    show Steps p.tables e below (s₁.setTop (mkF m 21 #[.val (.int p0), .val (.int p1), .val (.int p2), .val (.int (1 : Int32)), .unset, .unset, .unset] [(.int (1 : Int32)), (.int (1 : Int32))])) _
    refine XS.icmpNo X0.here hx rfl (hb hby at_21) rfl (by decide +kernel) ?_
    show Steps p.tables e below (s₁.setTop (mkF m 24 #[.val (.int p0), .val (.int p1), .val (.int p2), .val (.int (1 : Int32)), .unset, .unset, .unset] [])) _
    refine st1 _ ?_
    show Steps p.tables e below (T1.setTop (mkF m 27 #[.val (.int p0), .val (.int p1), .val (.int p2), .val (.int (1 : Int32)), .unset, .unset, .unset] [(.ref s_BMP)])) _
    refine XS.astore X1.here hx rfl (hb hby at_27) rfl rfl (l' := #[.val (.int p0), .val (.int p1), .val (.int p2), .val (.int (1 : Int32)), .val (.ref s_BMP), .unset, .unset]) rfl ?_
    show Steps p.tables e below (T1.setTop (mkF m 29 #[.val (.int p0), .val (.int p1), .val (.int p2), .val (.int (1 : Int32)), .val (.ref s_BMP), .unset, .unset] [])) _
    refine XS.goto X1.here hx rfl (pc0 := 29) (pc' := 37) rfl (hb hby at_29) (by decide) (by decide) ?_
    show Steps p.tables e below (T1.setTop (mkF m 37 #[.val (.int p0), .val (.int p1), .val (.int p2), .val (.int (1 : Int32)), .val (.ref s_BMP), .unset, .unset] [])) _
    refine XS.iloadN X1.here hx rfl (hb hby at_37) rfl ?_
    show Steps p.tables e below (T1.setTop (mkF m 38 #[.val (.int p0), .val (.int p1), .val (.int p2), .val (.int (1 : Int32)), .val (.ref s_BMP), .unset, .unset] [(.int p2)])) _
    refine XS.bipush X1.here hx rfl (hb hby at_38) ?_
    show Steps p.tables e below (T1.setTop (mkF m 40 #[.val (.int p0), .val (.int p1), .val (.int p2), .val (.int (1 : Int32)), .val (.ref s_BMP), .unset, .unset] [(.int (8 : Int32)), (.int p2)])) _
    refine XS.iand X1.here hx rfl (hb hby at_40) rfl ?_
    show Steps p.tables e below (T1.setTop (mkF m 41 #[.val (.int p0), .val (.int p1), .val (.int p2), .val (.int (1 : Int32)), .val (.ref s_BMP), .unset, .unset] [(.int (p2 &&& (8 : Int32)))])) _
    rw [hb1]
    show Steps p.tables e below (T1.setTop (mkF m 41 #[.val (.int p0), .val (.int p1), .val (.int p2), .val (.int (1 : Int32)), .val (.ref s_BMP), .unset, .unset] [(.int (8 : Int32))])) _
    refine XS.ifNo X1.here hx rfl (hb hby at_41) rfl (by decide +kernel) ?_
    show Steps p.tables e below (T1.setTop (mkF m 44 #[.val (.int p0), .val (.int p1), .val (.int p2), .val (.int (1 : Int32)), .val (.ref s_BMP), .unset, .unset] [])) _
    refine XS.iloadN X1.here hx rfl (hb hby at_44) rfl ?_
    show Steps p.tables e below (T1.setTop (mkF m 45 #[.val (.int p0), .val (.int p1), .val (.int p2), .val (.int (1 : Int32)), .val (.ref s_BMP), .unset, .unset] [(.int p1)])) _
    refine XS.istore X1.here hx rfl (hb hby at_45) rfl (l' := #[.val (.int p0), .val (.int p1), .val (.int p2), .val (.int (1 : Int32)), .val (.ref s_BMP), .val (.int p1), .unset]) rfl ?_
    show Steps p.tables e below (T1.setTop (mkF m 47 #[.val (.int p0), .val (.int p1), .val (.int p2), .val (.int (1 : Int32)), .val (.ref s_BMP), .val (.int p1), .unset] [])) _
    refine XS.goto X1.here hx rfl (pc0 := 47) (pc' := 66) rfl (hb hby at_47) (by decide) (by decide) ?_
    show Steps p.tables e below (T1.setTop (mkF m 66 #[.val (.int p0), .val (.int p1), .val (.int p2), .val (.int (1 : Int32)), .val (.ref s_BMP), .val (.int p1), .unset] [])) _
    refine XS.iloadN X1.here hx rfl (hb hby at_66) rfl ?_
    show Steps p.tables e below (T1.setTop (mkF m 67 #[.val (.int p0), .val (.int p1), .val (.int p2), .val (.int (1 : Int32)), .val (.ref s_BMP), .val (.int p1), .unset] [(.int (1 : Int32))])) _
    refine XS.ifYes X1.here hx rfl (pc0 := 67) (pc' := 92) rfl (hb hby at_67) rfl (by decide +kernel) (by decide) (by decide) ?_
    show Steps p.tables e below (T1.setTop (mkF m 92 #[.val (.int p0), .val (.int p1), .val (.int p2), .val (.int (1 : Int32)), .val (.ref s_BMP), .val (.int p1), .unset] [])) _
    refine XS.iloadN X1.here hx rfl (hb hby at_92) rfl ?_
    show Steps p.tables e below (T1.setTop (mkF m 93 #[.val (.int p0), .val (.int p1), .val (.int p2), .val (.int (1 : Int32)), .val (.ref s_BMP), .val (.int p1), .unset] [(.int (1 : Int32))])) _
    refine XS.iconst X1.here hx rfl (hb hby at_93) ?_
    show Steps p.tables e below (T1.setTop (mkF m 94 #[.val (.int p0), .val (.int p1), .val (.int p2), .val (.int (1 : Int32)), .val (.ref s_BMP), .val (.int p1), .unset] [(.int (1 : Int32)), (.int (1 : Int32))])) _
    refine XS.icmpNo X1.here hx rfl (hb hby at_94) rfl (by decide +kernel) ?_
    show Steps p.tables e below (T1.setTop (mkF m 97 #[.val (.int p0), .val (.int p1), .val (.int p2), .val (.int (1 : Int32)), .val (.ref s_BMP), .val (.int p1), .unset] [])) _
    refine XS.iload X1.here hx rfl (hb hby at_97) rfl ?_
    show Steps p.tables e below (T1.setTop (mkF m 99 #[.val (.int p0), .val (.int p1), .val (.int p2), .val (.int (1 : Int32)), .val (.ref s_BMP), .val (.int p1), .unset] [(.int p1)])) _
    refine XS.ifYes X1.here hx rfl (pc0 := 99) (pc' := 109) rfl (hb hby at_99) rfl hc_lt_0 (by decide) (by decide) ?_
    show Steps p.tables e below (T1.setTop (mkF m 109 #[.val (.int p0), .val (.int p1), .val (.int p2), .val (.int (1 : Int32)), .val (.ref s_BMP), .val (.int p1), .unset] [])) _
    refine XS.iload X1.here hx rfl (hb hby at_109) rfl ?_
    show Steps p.tables e below (T1.setTop (mkF m 111 #[.val (.int p0), .val (.int p1), .val (.int p2), .val (.int (1 : Int32)), .val (.ref s_BMP), .val (.int p1), .unset] [(.int p1)])) _
    refine X1.ldcInt hx hown (mvT hZ (hw _ (List.mem_of_getElem? (i := 19) rfl))) (g := (mkF m 111 #[.val (.int p0), .val (.int p1), .val (.int p2), .val (.int (1 : Int32)), .val (.ref s_BMP), .val (.int p1), .unset] [(.int p1)])) rfl (hb hby at_111) _ ?_
    show Steps p.tables e below (T1.setTop (mkF m 113 #[.val (.int p0), .val (.int p1), .val (.int p2), .val (.int (1 : Int32)), .val (.ref s_BMP), .val (.int p1), .unset] [(.int (57344 : Int32)), (.int p1)])) _
    refine XS.icmpYes X1.here hx rfl (pc0 := 113) (pc' := 127) rfl (hb hby at_113) rfl hc_lt_57344 (by decide) (by decide) ?_
    show Steps p.tables e below (T1.setTop (mkF m 127 #[.val (.int p0), .val (.int p1), .val (.int p2), .val (.int (1 : Int32)), .val (.ref s_BMP), .val (.int p1), .unset] [])) _
    refine XS.iconst X1.here hx rfl (hb hby at_127) ?_
    show Steps p.tables e below (T1.setTop (mkF m 128 #[.val (.int p0), .val (.int p1), .val (.int p2), .val (.int (1 : Int32)), .val (.ref s_BMP), .val (.int p1), .unset] [(.int (0 : Int32))])) _
    refine XS.istore X1.here hx rfl (hb hby at_128) rfl (l' := #[.val (.int p0), .val (.int p1), .val (.int p2), .val (.int (1 : Int32)), .val (.ref s_BMP), .val (.int p1), .val (.int (0 : Int32))]) rfl ?_
    show Steps p.tables e below (T1.setTop (mkF m 130 #[.val (.int p0), .val (.int p1), .val (.int p2), .val (.int (1 : Int32)), .val (.ref s_BMP), .val (.int p1), .val (.int (0 : Int32))] [])) _
    refine XS.goto X1.here hx rfl (pc0 := 130) (pc' := 166) rfl (hb hby at_130) (by decide) (by decide) ?_
    show Steps p.tables e below (T1.setTop (mkF m 166 #[.val (.int p0), .val (.int p1), .val (.int p2), .val (.int (1 : Int32)), .val (.ref s_BMP), .val (.int p1), .val (.int (0 : Int32))] [])) _
    refine XS.aload X1.here hx rfl (hb hby at_166) rfl rfl ?_
    show Steps p.tables e below (T1.setTop (mkF m 168 #[.val (.int p0), .val (.int p1), .val (.int p2), .val (.int (1 : Int32)), .val (.ref s_BMP), .val (.int p1), .val (.int (0 : Int32))] [(.ref s_BMP)])) _
    refine XS.iload X1.here hx rfl (hb hby at_168) rfl ?_
    show Steps p.tables e below (T1.setTop (mkF m 170 #[.val (.int p0), .val (.int p1), .val (.int p2), .val (.int (1 : Int32)), .val (.ref s_BMP), .val (.int p1), .val (.int (0 : Int32))] [(.int p1), (.ref s_BMP)])) _
    refine st2.trans ?_
    show Steps p.tables e below (T2.setTop (mkF m 173 #[.val (.int p0), .val (.int p1), .val (.int p2), .val (.int (1 : Int32)), .val (.ref s_BMP), .val (.int p1), .val (.int (0 : Int32))] [(.int (0 : Int32))])) _
    refine XS.iload X2.here hx rfl (hb hby at_173) rfl ?_
    show Steps p.tables e below (T2.setTop (mkF m 175 #[.val (.int p0), .val (.int p1), .val (.int p2), .val (.int (1 : Int32)), .val (.ref s_BMP), .val (.int p1), .val (.int (0 : Int32))] [(.int (0 : Int32)), (.int (0 : Int32))])) _
    refine XS.icmpNo X2.here hx rfl (hb hby at_175) rfl (by decide +kernel) ?_
    show Steps p.tables e below (T2.setTop (mkF m 178 #[.val (.int p0), .val (.int p1), .val (.int p2), .val (.int (1 : Int32)), .val (.ref s_BMP), .val (.int p1), .val (.int (0 : Int32))] [])) _
    refine XS.iconst X2.here hx rfl (hb hby at_178) ?_
    show Steps p.tables e below (T2.setTop (mkF m 179 #[.val (.int p0), .val (.int p1), .val (.int p2), .val (.int (1 : Int32)), .val (.ref s_BMP), .val (.int p1), .val (.int (0 : Int32))] [(.int (1 : Int32))])) _
    refine XS.goto X2.here hx rfl (pc0 := 179) (pc' := 183) rfl (hb hby at_179) (by decide) (by decide) ?_
    show Steps p.tables e below (T2.setTop (mkF m 183 #[.val (.int p0), .val (.int p1), .val (.int p2), .val (.int (1 : Int32)), .val (.ref s_BMP), .val (.int p1), .val (.int (0 : Int32))] [(.int (1 : Int32))])) _
    exact retN X2 hx (t := .boolean) Bd.returns (by simp) (hb hby at_183) hr
  · exact ⟨rfl, N2, e2⟩
set_option maxRecDepth 65536 in
set_option maxHeartbeats 40000000 in
theorem r32 (l : Launch) (Z : State) (a0 : Array Value) (hw : ∀ d ∈ tables_1, d.before a0 Z = true) (ws : List Jvm.Cond) (h0 : Heap) (n0 : Nat) (s_IA5 : Addr) (s_BMP : Addr) (s_UTF8 : Addr) (K : Ctx Z h0 s_IA5 s_BMP s_UTF8) (p1 : Int32) (hc_lt_0 : ifCond.holds .lt p1 = false) (hc_gt_65535 : if_icmp.holds .gt p1 (65535 : Int32) = false) (hc_lt_55296 : if_icmp.holds .lt p1 (55296 : Int32) = true) :
    MetFree l (⟨"com/example/plainwire/plainwire/definitions/Repertoire", "holds", "(I)Z"⟩ : MethodName) (head1 (Jvm.Cond.code (⟨"com/example/plainwire/plainwire/definitions/Repertoire", "holds", "(I)Z"⟩ : MethodName) prog_37_method_5_code 2 (some .boolean) :: ws) ({ frames := 0, cells := 0, slots := 0, locals := 0 } : Room)) (fun a U => a = #[(.ref s_BMP), (.int p1)] ∧ Z.Warmed39 U.vm ∧ U.heap = h0) (fun _ _ _ _ _ => True) (fun _ U o U' => ∃ v L, o = .returned v ∧ QV (.int (1 : Int32)) h0 n0 v U'.heap L ∧ FrameEnd U o U' L ({ frames := 0, cells := 0, slots := 0, locals := 0 } : Room).cells ({ frames := 0, cells := 0, slots := 0, locals := 0 } : Room).slots) := by
  obtain ⟨S_IA5, E_IA5, F_IA5_lastCodePoint, S_BMP, E_BMP, F_BMP_lastCodePoint, S_UTF8, E_UTF8, F_UTF8_lastCodePoint⟩ := id K
  refine MetFree.of_bodySF (plainFor_of_name pn1) hisR ?_
  intro p e s m args below meth c s₁ Bd hml0 hP hK
  obtain ⟨rfl, hZ, hh⟩ := hP
  have hx := Bd.exec
  have hby := Bd.bytes
  have hml : c.maxLocals = 2 := hml0
  have hown : s.vm.findClass "com/example/plainwire/plainwire/definitions/Repertoire" = some m.cls := findClass_of_methodNamed Bd.named
  have X0 : Stand p l e ({ frames := 0, cells := 0, slots := 0, locals := 0 } : Room) s m #[(.ref s_BMP), (.int p1)] below meth c s₁ [] 0 0 := Stand.of_body Bd
  have e0 : s₁.heap = h0 := by rw [← hh, Bd.state]; rfl
  have N0 := Fr.nil n0
  have pre0 : ∀ t, Steps p.tables e below (s₁.setTop (mkF m 0 #[.val (.ref s_BMP), .val (.int p1)] [])) t → Steps p.tables e below (s₁.setTop (entryFrame m #[(.ref s_BMP), (.int p1)] 2)) t := fun t k => castTop (by first | (simp [entryFrame, mkF, argsToLocals, Value.category]; done) | rfl) k
  obtain ⟨T1, X1, e1, st1⟩ := getF X0 hx hZ hown (host := "") (Or.inl (hw _ (List.mem_of_getElem? (i := 14) rfl))) Via.refl e0 F_BMP_lastCodePoint (g := (mkF m 6 #[.val (.ref s_BMP), .val (.int p1)] [(.ref s_BMP), (.int p1)])) rfl rfl (hb hby d1_6)
  obtain ⟨fs, hr, hrun, hended, hW, hsame⟩ := X1.leave (v := some (.int (1 : Int32))) (fun h => by rw [Bd.returns] at h; cases h)
  refine ⟨_, _, pre0 _ ?_, hrun, hended, _, _, rfl, ?_, ⟨_, rfl⟩, hW, hsame.mono (by decide) (by decide)⟩
  · show Steps p.tables e below (s₁.setTop (mkF m 0 #[.val (.ref s_BMP), .val (.int p1)] [])) _
    refine XS.iloadN X0.here hx rfl (hb hby d1_0) rfl ?_
    show Steps p.tables e below (s₁.setTop (mkF m 1 #[.val (.ref s_BMP), .val (.int p1)] [(.int p1)])) _
    refine XS.ifNo X0.here hx rfl (hb hby d1_1) rfl hc_lt_0 ?_
    show Steps p.tables e below (s₁.setTop (mkF m 4 #[.val (.ref s_BMP), .val (.int p1)] [])) _
    refine XS.iloadN X0.here hx rfl (hb hby d1_4) rfl ?_
    show Steps p.tables e below (s₁.setTop (mkF m 5 #[.val (.ref s_BMP), .val (.int p1)] [(.int p1)])) _
    refine XS.aloadN X0.here hx rfl (hb hby d1_5) rfl rfl ?_
    show Steps p.tables e below (s₁.setTop (mkF m 6 #[.val (.ref s_BMP), .val (.int p1)] [(.ref s_BMP), (.int p1)])) _
    refine st1 _ ?_
    show Steps p.tables e below (T1.setTop (mkF m 9 #[.val (.ref s_BMP), .val (.int p1)] [(.int (65535 : Int32)), (.int p1)])) _
    refine XS.icmpNo X1.here hx rfl (hb hby d1_9) rfl hc_gt_65535 ?_
    show Steps p.tables e below (T1.setTop (mkF m 12 #[.val (.ref s_BMP), .val (.int p1)] [])) _
    refine XS.iloadN X1.here hx rfl (hb hby d1_12) rfl ?_
    show Steps p.tables e below (T1.setTop (mkF m 13 #[.val (.ref s_BMP), .val (.int p1)] [(.int p1)])) _
    refine X1.ldcInt hx hown (mvT hZ (hw _ (List.mem_of_getElem? (i := 21) rfl))) (g := (mkF m 13 #[.val (.ref s_BMP), .val (.int p1)] [(.int p1)])) rfl (hb hby d1_13) _ ?_
    show Steps p.tables e below (T1.setTop (mkF m 15 #[.val (.ref s_BMP), .val (.int p1)] [(.int (55296 : Int32)), (.int p1)])) _
    refine XS.icmpYes X1.here hx rfl (pc0 := 15) (pc' := 24) rfl (hb hby d1_15) rfl hc_lt_55296 (by decide) (by decide) ?_
    show Steps p.tables e below (T1.setTop (mkF m 24 #[.val (.ref s_BMP), .val (.int p1)] [])) _
    refine XS.iconst X1.here hx rfl (hb hby d1_24) ?_
    show Steps p.tables e below (T1.setTop (mkF m 25 #[.val (.ref s_BMP), .val (.int p1)] [(.int (1 : Int32))])) _
    refine XS.goto X1.here hx rfl (pc0 := 25) (pc' := 29) rfl (hb hby d1_25) (by decide) (by decide) ?_
    show Steps p.tables e below (T1.setTop (mkF m 29 #[.val (.ref s_BMP), .val (.int p1)] [(.int (1 : Int32))])) _
    exact retN X1 hx (t := .boolean) Bd.returns (by simp) (hb hby d1_29) hr
  · exact ⟨rfl, N0, e1⟩
set_option maxRecDepth 65536 in
set_option maxHeartbeats 40000000 in
theorem law_k1_8_1 (l : Launch) (Z : State) (a0 : Array Value) (hw : ∀ d ∈ tables_1, d.before a0 Z = true) (ws : List Jvm.Cond) (h0 : Heap) (n0 : Nat) (s_IA5 : Addr) (s_BMP : Addr) (s_UTF8 : Addr) (K : Ctx Z h0 s_IA5 s_BMP s_UTF8) (p0 : Int32) (p1 : Int32) (p2 : Int32) (ha : ((p0 &&& (2147483647 : Int32)) % (3 : Int32)) = (1 : Int32)) (hb1 : (p2 &&& (8 : Int32)) = (8 : Int32)) (hc_lt_0 : ifCond.holds .lt p1 = false) (hc_lt_55296 : if_icmp.holds .lt p1 (55296 : Int32) = true) (hc_gt_65535 : if_icmp.holds .gt p1 (65535 : Int32) = false) :
    MetFree l x (head1 (Jvm.Cond.code x code maxLocals ret :: ws) room_1) (fun a U => a = #[(.int p0), (.int p1), (.int p2)] ∧ Z.Warmed39 U.vm ∧ U.heap = h0) (fun _ _ _ _ _ => True) (fun _ U o U' => ∃ v L, o = .returned v ∧ QV (.int (1 : Int32)) h0 n0 v U'.heap L ∧ FrameEnd U o U' L room_1.cells room_1.slots) := by
  obtain ⟨S_IA5, E_IA5, F_IA5_lastCodePoint, S_BMP, E_BMP, F_BMP_lastCodePoint, S_UTF8, E_UTF8, F_UTF8_lastCodePoint⟩ := id K
  refine MetFree.of_bodySF (plainFor_of_name pn2) hisR ?_
  intro p e s m args below meth c s₁ Bd hml0 hP hK
  obtain ⟨rfl, hZ, hh⟩ := hP
  have hx := Bd.exec
  have hby := Bd.bytes
  have hml : c.maxLocals = 7 := hml0
  have hown : s.vm.findClass "com/example/plainwire/plainwire/definitions/RepertoireHoldsPinLaw" = some m.cls := findClass_of_methodNamed Bd.named
  have X0 : Stand p l e room_1 s m #[(.int p0), (.int p1), (.int p2)] below meth c s₁ [] 0 0 := Stand.of_body Bd
  have e0 : s₁.heap = h0 := by rw [← hh, Bd.state]; rfl
  have N0 := Fr.nil n0
  have pre0 : ∀ t, Steps p.tables e below (s₁.setTop (mkF m 0 #[.val (.int p0), .val (.int p1), .val (.int p2), .unset, .unset, .unset, .unset] [])) t → Steps p.tables e below (s₁.setTop (entryFrame m #[(.int p0), (.int p1), (.int p2)] maxLocals)) t := fun t k => castTop (by first | (simp [entryFrame, mkF, argsToLocals, Value.category, maxLocals]; done) | rfl) k
  obtain ⟨T1, X1, e1, st1⟩ := getS X0 hx hZ hown (host := "") (hw _ (List.mem_of_getElem? (i := 16) rfl)) Via.refl e0 S_BMP (g := (mkF m 24 #[.val (.int p0), .val (.int p1), .val (.int p2), .val (.int (1 : Int32)), .unset, .unset, .unset] [])) rfl (hb hby at_24)
  obtain ⟨cq2, kq2, q2a, q2b, q2c⟩ := isOf hZ e1 E_BMP
  obtain ⟨_, _, ⟨T2, L2, k2, n2⟩, -, X2, ⟨Lc2, hQ2, l2, y2, z2⟩, st2⟩ := X1.virtualBack hx (y := (⟨"com/example/plainwire/plainwire/definitions/Repertoire", "holds", "(I)Z"⟩ : MethodName)) (z := (⟨"com/example/plainwire/plainwire/definitions/Repertoire", "holds", "(I)Z"⟩ : MethodName)) hown (mvT hZ (hw _ (List.mem_of_getElem? (i := 9) rfl))) (mvT hZ (hw _ (List.mem_of_getElem? (i := 10) rfl))) (notFace_of_selects (args := #[]) (mvT hZ (hw _ (List.mem_of_getElem? (i := 12) rfl)))) (mvT hZ (hw _ (List.mem_of_getElem? (i := 12) rfl))) (mvT hZ (hw _ (List.mem_of_getElem? (i := 11) rfl))) (by decide) (backOf (W := 0) (r32 l Z a0 hw [] h0 n0 s_IA5 s_BMP s_UTF8 K p1 hc_lt_0 hc_gt_65535 hc_lt_55296) hZ (hw _ (List.mem_of_getElem? (i := 13) rfl)) (hw _ (List.mem_of_getElem? (i := 2) rfl)) (by decide) (by decide)) q2a q2c (g := (mkF m 170 #[.val (.int p0), .val (.int p1), .val (.int p2), .val (.int (1 : Int32)), .val (.ref s_BMP), .val (.int p1), .val (.int (1 : Int32))] [(.int p1), (.ref s_BMP)])) rfl (by rw [hml]; rfl) (Steps.refl _) (argsL := [(.int p1)]) (rest := []) (lenOf pd1 rfl) rfl (by show 2 * 0 + _ ≤ _; exact Nat.le_of_eq rfl) (hb hby at_170) (fun _ _ => ⟨rfl, e1, (by decide : 0 + 0 ≤ _), (by decide : 0 + 0 ≤ _)⟩)
  dsimp only [Pt.U, Pt.locs, Pt.cells, Pt.slots] at X2 l2 y2 z2 st2 hQ2
  subst l2 y2 z2
  obtain ⟨rfl, N2q, e2⟩ := hQ2
  have N2 := Fr.app N0 N2q
  obtain ⟨fs, hr, hrun, hended, hW, hsame⟩ := X2.leave (v := some (.int (1 : Int32))) (fun h => by rw [Bd.returns] at h; cases h)
  refine ⟨_, _, pre0 _ ?_, hrun, hended, _, _, rfl, ?_, ⟨_, rfl⟩, hW, hsame.mono (by decide) (by decide)⟩
  · show Steps p.tables e below (s₁.setTop (mkF m 0 #[.val (.int p0), .val (.int p1), .val (.int p2), .unset, .unset, .unset, .unset] [])) _
    refine XS.iloadN X0.here hx rfl (hb hby at_0) rfl ?_
    show Steps p.tables e below (s₁.setTop (mkF m 1 #[.val (.int p0), .val (.int p1), .val (.int p2), .unset, .unset, .unset, .unset] [(.int p0)])) _
    refine X0.ldcInt hx hown (mvT hZ (hw _ (List.mem_of_getElem? (i := 0) rfl))) (g := (mkF m 1 #[.val (.int p0), .val (.int p1), .val (.int p2), .unset, .unset, .unset, .unset] [(.int p0)])) rfl (hb hby at_1) _ ?_
    show Steps p.tables e below (s₁.setTop (mkF m 3 #[.val (.int p0), .val (.int p1), .val (.int p2), .unset, .unset, .unset, .unset] [(.int (2147483647 : Int32)), (.int p0)])) _
    refine XS.iand X0.here hx rfl (hb hby at_3) rfl ?_
    show Steps p.tables e below (s₁.setTop (mkF m 4 #[.val (.int p0), .val (.int p1), .val (.int p2), .unset, .unset, .unset, .unset] [(.int (p0 &&& (2147483647 : Int32)))])) _
    refine XS.iconst X0.here hx rfl (hb hby at_4) ?_
    show Steps p.tables e below (s₁.setTop (mkF m 5 #[.val (.int p0), .val (.int p1), .val (.int p2), .unset, .unset, .unset, .unset] [(.int (3 : Int32)), (.int (p0 &&& (2147483647 : Int32)))])) _
    refine Jvm.RoadKit.iremM X0 hx rfl (hb hby at_5) rfl (by decide) ?_
    show Steps p.tables e below (s₁.setTop (mkF m 6 #[.val (.int p0), .val (.int p1), .val (.int p2), .unset, .unset, .unset, .unset] [(.int ((p0 &&& (2147483647 : Int32)) % (3 : Int32)))])) _
    rw [ha]
    show Steps p.tables e below (s₁.setTop (mkF m 6 #[.val (.int p0), .val (.int p1), .val (.int p2), .unset, .unset, .unset, .unset] [(.int (1 : Int32))])) _
    refine XS.istoreN X0.here hx rfl (hb hby at_6) rfl (l' := #[.val (.int p0), .val (.int p1), .val (.int p2), .val (.int (1 : Int32)), .unset, .unset, .unset]) rfl ?_
    show Steps p.tables e below (s₁.setTop (mkF m 7 #[.val (.int p0), .val (.int p1), .val (.int p2), .val (.int (1 : Int32)), .unset, .unset, .unset] [])) _
    refine XS.iloadN X0.here hx rfl (hb hby at_7) rfl ?_
    show Steps p.tables e below (s₁.setTop (mkF m 8 #[.val (.int p0), .val (.int p1), .val (.int p2), .val (.int (1 : Int32)), .unset, .unset, .unset] [(.int (1 : Int32))])) _
    refine XS.ifYes X0.here hx rfl (pc0 := 8) (pc' := 19) rfl (hb hby at_8) rfl (by decide +kernel) (by decide) (by decide) ?_
    show Steps p.tables e below (s₁.setTop (mkF m 19 #[.val (.int p0), .val (.int p1), .val (.int p2), .val (.int (1 : Int32)), .unset, .unset, .unset] [])) _
    refine XS.iloadN X0.here hx rfl (hb hby at_19) rfl ?_
    show Steps p.tables e below (s₁.setTop (mkF m 20 #[.val (.int p0), .val (.int p1), .val (.int p2), .val (.int (1 : Int32)), .unset, .unset, .unset] [(.int (1 : Int32))])) _
    refine XS.iconst X0.here hx rfl (hb hby at_20) ?_
    show Steps p.tables e below (s₁.setTop (mkF m 21 #[.val (.int p0), .val (.int p1), .val (.int p2), .val (.int (1 : Int32)), .unset, .unset, .unset] [(.int (1 : Int32)), (.int (1 : Int32))])) _
    refine XS.icmpNo X0.here hx rfl (hb hby at_21) rfl (by decide +kernel) ?_
    show Steps p.tables e below (s₁.setTop (mkF m 24 #[.val (.int p0), .val (.int p1), .val (.int p2), .val (.int (1 : Int32)), .unset, .unset, .unset] [])) _
    refine st1 _ ?_
    show Steps p.tables e below (T1.setTop (mkF m 27 #[.val (.int p0), .val (.int p1), .val (.int p2), .val (.int (1 : Int32)), .unset, .unset, .unset] [(.ref s_BMP)])) _
    refine XS.astore X1.here hx rfl (hb hby at_27) rfl rfl (l' := #[.val (.int p0), .val (.int p1), .val (.int p2), .val (.int (1 : Int32)), .val (.ref s_BMP), .unset, .unset]) rfl ?_
    show Steps p.tables e below (T1.setTop (mkF m 29 #[.val (.int p0), .val (.int p1), .val (.int p2), .val (.int (1 : Int32)), .val (.ref s_BMP), .unset, .unset] [])) _
    refine XS.goto X1.here hx rfl (pc0 := 29) (pc' := 37) rfl (hb hby at_29) (by decide) (by decide) ?_
    show Steps p.tables e below (T1.setTop (mkF m 37 #[.val (.int p0), .val (.int p1), .val (.int p2), .val (.int (1 : Int32)), .val (.ref s_BMP), .unset, .unset] [])) _
    refine XS.iloadN X1.here hx rfl (hb hby at_37) rfl ?_
    show Steps p.tables e below (T1.setTop (mkF m 38 #[.val (.int p0), .val (.int p1), .val (.int p2), .val (.int (1 : Int32)), .val (.ref s_BMP), .unset, .unset] [(.int p2)])) _
    refine XS.bipush X1.here hx rfl (hb hby at_38) ?_
    show Steps p.tables e below (T1.setTop (mkF m 40 #[.val (.int p0), .val (.int p1), .val (.int p2), .val (.int (1 : Int32)), .val (.ref s_BMP), .unset, .unset] [(.int (8 : Int32)), (.int p2)])) _
    refine XS.iand X1.here hx rfl (hb hby at_40) rfl ?_
    show Steps p.tables e below (T1.setTop (mkF m 41 #[.val (.int p0), .val (.int p1), .val (.int p2), .val (.int (1 : Int32)), .val (.ref s_BMP), .unset, .unset] [(.int (p2 &&& (8 : Int32)))])) _
    rw [hb1]
    show Steps p.tables e below (T1.setTop (mkF m 41 #[.val (.int p0), .val (.int p1), .val (.int p2), .val (.int (1 : Int32)), .val (.ref s_BMP), .unset, .unset] [(.int (8 : Int32))])) _
    refine XS.ifNo X1.here hx rfl (hb hby at_41) rfl (by decide +kernel) ?_
    show Steps p.tables e below (T1.setTop (mkF m 44 #[.val (.int p0), .val (.int p1), .val (.int p2), .val (.int (1 : Int32)), .val (.ref s_BMP), .unset, .unset] [])) _
    refine XS.iloadN X1.here hx rfl (hb hby at_44) rfl ?_
    show Steps p.tables e below (T1.setTop (mkF m 45 #[.val (.int p0), .val (.int p1), .val (.int p2), .val (.int (1 : Int32)), .val (.ref s_BMP), .unset, .unset] [(.int p1)])) _
    refine XS.istore X1.here hx rfl (hb hby at_45) rfl (l' := #[.val (.int p0), .val (.int p1), .val (.int p2), .val (.int (1 : Int32)), .val (.ref s_BMP), .val (.int p1), .unset]) rfl ?_
    show Steps p.tables e below (T1.setTop (mkF m 47 #[.val (.int p0), .val (.int p1), .val (.int p2), .val (.int (1 : Int32)), .val (.ref s_BMP), .val (.int p1), .unset] [])) _
    refine XS.goto X1.here hx rfl (pc0 := 47) (pc' := 66) rfl (hb hby at_47) (by decide) (by decide) ?_
    show Steps p.tables e below (T1.setTop (mkF m 66 #[.val (.int p0), .val (.int p1), .val (.int p2), .val (.int (1 : Int32)), .val (.ref s_BMP), .val (.int p1), .unset] [])) _
    refine XS.iloadN X1.here hx rfl (hb hby at_66) rfl ?_
    show Steps p.tables e below (T1.setTop (mkF m 67 #[.val (.int p0), .val (.int p1), .val (.int p2), .val (.int (1 : Int32)), .val (.ref s_BMP), .val (.int p1), .unset] [(.int (1 : Int32))])) _
    refine XS.ifYes X1.here hx rfl (pc0 := 67) (pc' := 92) rfl (hb hby at_67) rfl (by decide +kernel) (by decide) (by decide) ?_
    show Steps p.tables e below (T1.setTop (mkF m 92 #[.val (.int p0), .val (.int p1), .val (.int p2), .val (.int (1 : Int32)), .val (.ref s_BMP), .val (.int p1), .unset] [])) _
    refine XS.iloadN X1.here hx rfl (hb hby at_92) rfl ?_
    show Steps p.tables e below (T1.setTop (mkF m 93 #[.val (.int p0), .val (.int p1), .val (.int p2), .val (.int (1 : Int32)), .val (.ref s_BMP), .val (.int p1), .unset] [(.int (1 : Int32))])) _
    refine XS.iconst X1.here hx rfl (hb hby at_93) ?_
    show Steps p.tables e below (T1.setTop (mkF m 94 #[.val (.int p0), .val (.int p1), .val (.int p2), .val (.int (1 : Int32)), .val (.ref s_BMP), .val (.int p1), .unset] [(.int (1 : Int32)), (.int (1 : Int32))])) _
    refine XS.icmpNo X1.here hx rfl (hb hby at_94) rfl (by decide +kernel) ?_
    show Steps p.tables e below (T1.setTop (mkF m 97 #[.val (.int p0), .val (.int p1), .val (.int p2), .val (.int (1 : Int32)), .val (.ref s_BMP), .val (.int p1), .unset] [])) _
    refine XS.iload X1.here hx rfl (hb hby at_97) rfl ?_
    show Steps p.tables e below (T1.setTop (mkF m 99 #[.val (.int p0), .val (.int p1), .val (.int p2), .val (.int (1 : Int32)), .val (.ref s_BMP), .val (.int p1), .unset] [(.int p1)])) _
    refine XS.ifNo X1.here hx rfl (hb hby at_99) rfl hc_lt_0 ?_
    show Steps p.tables e below (T1.setTop (mkF m 102 #[.val (.int p0), .val (.int p1), .val (.int p2), .val (.int (1 : Int32)), .val (.ref s_BMP), .val (.int p1), .unset] [])) _
    refine XS.iload X1.here hx rfl (hb hby at_102) rfl ?_
    show Steps p.tables e below (T1.setTop (mkF m 104 #[.val (.int p0), .val (.int p1), .val (.int p2), .val (.int (1 : Int32)), .val (.ref s_BMP), .val (.int p1), .unset] [(.int p1)])) _
    refine X1.ldcInt hx hown (mvT hZ (hw _ (List.mem_of_getElem? (i := 8) rfl))) (g := (mkF m 104 #[.val (.int p0), .val (.int p1), .val (.int p2), .val (.int (1 : Int32)), .val (.ref s_BMP), .val (.int p1), .unset] [(.int p1)])) rfl (hb hby at_104) _ ?_
    show Steps p.tables e below (T1.setTop (mkF m 106 #[.val (.int p0), .val (.int p1), .val (.int p2), .val (.int (1 : Int32)), .val (.ref s_BMP), .val (.int p1), .unset] [(.int (55296 : Int32)), (.int p1)])) _
    refine XS.icmpYes X1.here hx rfl (pc0 := 106) (pc' := 123) rfl (hb hby at_106) rfl hc_lt_55296 (by decide) (by decide) ?_
    show Steps p.tables e below (T1.setTop (mkF m 123 #[.val (.int p0), .val (.int p1), .val (.int p2), .val (.int (1 : Int32)), .val (.ref s_BMP), .val (.int p1), .unset] [])) _
    refine XS.iconst X1.here hx rfl (hb hby at_123) ?_
    show Steps p.tables e below (T1.setTop (mkF m 124 #[.val (.int p0), .val (.int p1), .val (.int p2), .val (.int (1 : Int32)), .val (.ref s_BMP), .val (.int p1), .unset] [(.int (1 : Int32))])) _
    refine XS.goto X1.here hx rfl (pc0 := 124) (pc' := 128) rfl (hb hby at_124) (by decide) (by decide) ?_
    show Steps p.tables e below (T1.setTop (mkF m 128 #[.val (.int p0), .val (.int p1), .val (.int p2), .val (.int (1 : Int32)), .val (.ref s_BMP), .val (.int p1), .unset] [(.int (1 : Int32))])) _
    refine XS.istore X1.here hx rfl (hb hby at_128) rfl (l' := #[.val (.int p0), .val (.int p1), .val (.int p2), .val (.int (1 : Int32)), .val (.ref s_BMP), .val (.int p1), .val (.int (1 : Int32))]) rfl ?_
    show Steps p.tables e below (T1.setTop (mkF m 130 #[.val (.int p0), .val (.int p1), .val (.int p2), .val (.int (1 : Int32)), .val (.ref s_BMP), .val (.int p1), .val (.int (1 : Int32))] [])) _
    refine XS.goto X1.here hx rfl (pc0 := 130) (pc' := 166) rfl (hb hby at_130) (by decide) (by decide) ?_
    show Steps p.tables e below (T1.setTop (mkF m 166 #[.val (.int p0), .val (.int p1), .val (.int p2), .val (.int (1 : Int32)), .val (.ref s_BMP), .val (.int p1), .val (.int (1 : Int32))] [])) _
    refine XS.aload X1.here hx rfl (hb hby at_166) rfl rfl ?_
    show Steps p.tables e below (T1.setTop (mkF m 168 #[.val (.int p0), .val (.int p1), .val (.int p2), .val (.int (1 : Int32)), .val (.ref s_BMP), .val (.int p1), .val (.int (1 : Int32))] [(.ref s_BMP)])) _
    refine XS.iload X1.here hx rfl (hb hby at_168) rfl ?_
    show Steps p.tables e below (T1.setTop (mkF m 170 #[.val (.int p0), .val (.int p1), .val (.int p2), .val (.int (1 : Int32)), .val (.ref s_BMP), .val (.int p1), .val (.int (1 : Int32))] [(.int p1), (.ref s_BMP)])) _
    refine st2.trans ?_
    show Steps p.tables e below (T2.setTop (mkF m 173 #[.val (.int p0), .val (.int p1), .val (.int p2), .val (.int (1 : Int32)), .val (.ref s_BMP), .val (.int p1), .val (.int (1 : Int32))] [(.int (1 : Int32))])) _
    refine XS.iload X2.here hx rfl (hb hby at_173) rfl ?_
    show Steps p.tables e below (T2.setTop (mkF m 175 #[.val (.int p0), .val (.int p1), .val (.int p2), .val (.int (1 : Int32)), .val (.ref s_BMP), .val (.int p1), .val (.int (1 : Int32))] [(.int (1 : Int32)), (.int (1 : Int32))])) _
    refine XS.icmpNo X2.here hx rfl (hb hby at_175) rfl (by decide +kernel) ?_
    show Steps p.tables e below (T2.setTop (mkF m 178 #[.val (.int p0), .val (.int p1), .val (.int p2), .val (.int (1 : Int32)), .val (.ref s_BMP), .val (.int p1), .val (.int (1 : Int32))] [])) _
    refine XS.iconst X2.here hx rfl (hb hby at_178) ?_
    show Steps p.tables e below (T2.setTop (mkF m 179 #[.val (.int p0), .val (.int p1), .val (.int p2), .val (.int (1 : Int32)), .val (.ref s_BMP), .val (.int p1), .val (.int (1 : Int32))] [(.int (1 : Int32))])) _
    refine XS.goto X2.here hx rfl (pc0 := 179) (pc' := 183) rfl (hb hby at_179) (by decide) (by decide) ?_
    show Steps p.tables e below (T2.setTop (mkF m 183 #[.val (.int p0), .val (.int p1), .val (.int p2), .val (.int (1 : Int32)), .val (.ref s_BMP), .val (.int p1), .val (.int (1 : Int32))] [(.int (1 : Int32))])) _
    exact retN X2 hx (t := .boolean) Bd.returns (by simp) (hb hby at_183) hr
  · exact ⟨rfl, N2, e2⟩
set_option maxRecDepth 65536 in
set_option maxHeartbeats 40000000 in
theorem r34 (l : Launch) (Z : State) (a0 : Array Value) (hw : ∀ d ∈ tables_1, d.before a0 Z = true) (ws : List Jvm.Cond) (h0 : Heap) (n0 : Nat) (s_IA5 : Addr) (s_BMP : Addr) (s_UTF8 : Addr) (K : Ctx Z h0 s_IA5 s_BMP s_UTF8) (p1 : Int32) (hc_lt_0 : ifCond.holds .lt p1 = false) (hc_gt_65535 : if_icmp.holds .gt p1 (65535 : Int32) = false) (hc_lt_55296 : if_icmp.holds .lt p1 (55296 : Int32) = false) (hc_le_57343 : if_icmp.holds .le p1 (57343 : Int32) = true) :
    MetFree l (⟨"com/example/plainwire/plainwire/definitions/Repertoire", "holds", "(I)Z"⟩ : MethodName) (head1 (Jvm.Cond.code (⟨"com/example/plainwire/plainwire/definitions/Repertoire", "holds", "(I)Z"⟩ : MethodName) prog_37_method_5_code 2 (some .boolean) :: ws) ({ frames := 0, cells := 0, slots := 0, locals := 0 } : Room)) (fun a U => a = #[(.ref s_BMP), (.int p1)] ∧ Z.Warmed39 U.vm ∧ U.heap = h0) (fun _ _ _ _ _ => True) (fun _ U o U' => ∃ v L, o = .returned v ∧ QV (.int (0 : Int32)) h0 n0 v U'.heap L ∧ FrameEnd U o U' L ({ frames := 0, cells := 0, slots := 0, locals := 0 } : Room).cells ({ frames := 0, cells := 0, slots := 0, locals := 0 } : Room).slots) := by
  obtain ⟨S_IA5, E_IA5, F_IA5_lastCodePoint, S_BMP, E_BMP, F_BMP_lastCodePoint, S_UTF8, E_UTF8, F_UTF8_lastCodePoint⟩ := id K
  refine MetFree.of_bodySF (plainFor_of_name pn1) hisR ?_
  intro p e s m args below meth c s₁ Bd hml0 hP hK
  obtain ⟨rfl, hZ, hh⟩ := hP
  have hx := Bd.exec
  have hby := Bd.bytes
  have hml : c.maxLocals = 2 := hml0
  have hown : s.vm.findClass "com/example/plainwire/plainwire/definitions/Repertoire" = some m.cls := findClass_of_methodNamed Bd.named
  have X0 : Stand p l e ({ frames := 0, cells := 0, slots := 0, locals := 0 } : Room) s m #[(.ref s_BMP), (.int p1)] below meth c s₁ [] 0 0 := Stand.of_body Bd
  have e0 : s₁.heap = h0 := by rw [← hh, Bd.state]; rfl
  have N0 := Fr.nil n0
  have pre0 : ∀ t, Steps p.tables e below (s₁.setTop (mkF m 0 #[.val (.ref s_BMP), .val (.int p1)] [])) t → Steps p.tables e below (s₁.setTop (entryFrame m #[(.ref s_BMP), (.int p1)] 2)) t := fun t k => castTop (by first | (simp [entryFrame, mkF, argsToLocals, Value.category]; done) | rfl) k
  obtain ⟨T1, X1, e1, st1⟩ := getF X0 hx hZ hown (host := "") (Or.inl (hw _ (List.mem_of_getElem? (i := 14) rfl))) Via.refl e0 F_BMP_lastCodePoint (g := (mkF m 6 #[.val (.ref s_BMP), .val (.int p1)] [(.ref s_BMP), (.int p1)])) rfl rfl (hb hby d1_6)
  obtain ⟨fs, hr, hrun, hended, hW, hsame⟩ := X1.leave (v := some (.int (0 : Int32))) (fun h => by rw [Bd.returns] at h; cases h)
  refine ⟨_, _, pre0 _ ?_, hrun, hended, _, _, rfl, ?_, ⟨_, rfl⟩, hW, hsame.mono (by decide) (by decide)⟩
  · show Steps p.tables e below (s₁.setTop (mkF m 0 #[.val (.ref s_BMP), .val (.int p1)] [])) _
    refine XS.iloadN X0.here hx rfl (hb hby d1_0) rfl ?_
    show Steps p.tables e below (s₁.setTop (mkF m 1 #[.val (.ref s_BMP), .val (.int p1)] [(.int p1)])) _
    refine XS.ifNo X0.here hx rfl (hb hby d1_1) rfl hc_lt_0 ?_
    show Steps p.tables e below (s₁.setTop (mkF m 4 #[.val (.ref s_BMP), .val (.int p1)] [])) _
    refine XS.iloadN X0.here hx rfl (hb hby d1_4) rfl ?_
    show Steps p.tables e below (s₁.setTop (mkF m 5 #[.val (.ref s_BMP), .val (.int p1)] [(.int p1)])) _
    refine XS.aloadN X0.here hx rfl (hb hby d1_5) rfl rfl ?_
    show Steps p.tables e below (s₁.setTop (mkF m 6 #[.val (.ref s_BMP), .val (.int p1)] [(.ref s_BMP), (.int p1)])) _
    refine st1 _ ?_
    show Steps p.tables e below (T1.setTop (mkF m 9 #[.val (.ref s_BMP), .val (.int p1)] [(.int (65535 : Int32)), (.int p1)])) _
    refine XS.icmpNo X1.here hx rfl (hb hby d1_9) rfl hc_gt_65535 ?_
    show Steps p.tables e below (T1.setTop (mkF m 12 #[.val (.ref s_BMP), .val (.int p1)] [])) _
    refine XS.iloadN X1.here hx rfl (hb hby d1_12) rfl ?_
    show Steps p.tables e below (T1.setTop (mkF m 13 #[.val (.ref s_BMP), .val (.int p1)] [(.int p1)])) _
    refine X1.ldcInt hx hown (mvT hZ (hw _ (List.mem_of_getElem? (i := 21) rfl))) (g := (mkF m 13 #[.val (.ref s_BMP), .val (.int p1)] [(.int p1)])) rfl (hb hby d1_13) _ ?_
    show Steps p.tables e below (T1.setTop (mkF m 15 #[.val (.ref s_BMP), .val (.int p1)] [(.int (55296 : Int32)), (.int p1)])) _
    refine XS.icmpNo X1.here hx rfl (hb hby d1_15) rfl hc_lt_55296 ?_
    show Steps p.tables e below (T1.setTop (mkF m 18 #[.val (.ref s_BMP), .val (.int p1)] [])) _
    refine XS.iloadN X1.here hx rfl (hb hby d1_18) rfl ?_
    show Steps p.tables e below (T1.setTop (mkF m 19 #[.val (.ref s_BMP), .val (.int p1)] [(.int p1)])) _
    refine X1.ldcInt hx hown (mvT hZ (hw _ (List.mem_of_getElem? (i := 22) rfl))) (g := (mkF m 19 #[.val (.ref s_BMP), .val (.int p1)] [(.int p1)])) rfl (hb hby d1_19) _ ?_
    show Steps p.tables e below (T1.setTop (mkF m 21 #[.val (.ref s_BMP), .val (.int p1)] [(.int (57343 : Int32)), (.int p1)])) _
    refine XS.icmpYes X1.here hx rfl (pc0 := 21) (pc' := 28) rfl (hb hby d1_21) rfl hc_le_57343 (by decide) (by decide) ?_
    show Steps p.tables e below (T1.setTop (mkF m 28 #[.val (.ref s_BMP), .val (.int p1)] [])) _
    refine XS.iconst X1.here hx rfl (hb hby d1_28) ?_
    show Steps p.tables e below (T1.setTop (mkF m 29 #[.val (.ref s_BMP), .val (.int p1)] [(.int (0 : Int32))])) _
    exact retN X1 hx (t := .boolean) Bd.returns (by simp) (hb hby d1_29) hr
  · exact ⟨rfl, N0, e1⟩
set_option maxRecDepth 65536 in
set_option maxHeartbeats 40000000 in
theorem law_k1_8_2 (l : Launch) (Z : State) (a0 : Array Value) (hw : ∀ d ∈ tables_1, d.before a0 Z = true) (ws : List Jvm.Cond) (h0 : Heap) (n0 : Nat) (s_IA5 : Addr) (s_BMP : Addr) (s_UTF8 : Addr) (K : Ctx Z h0 s_IA5 s_BMP s_UTF8) (p0 : Int32) (p1 : Int32) (p2 : Int32) (ha : ((p0 &&& (2147483647 : Int32)) % (3 : Int32)) = (1 : Int32)) (hb1 : (p2 &&& (8 : Int32)) = (8 : Int32)) (hc_lt_0 : ifCond.holds .lt p1 = false) (hc_lt_55296 : if_icmp.holds .lt p1 (55296 : Int32) = false) (hc_lt_57344 : if_icmp.holds .lt p1 (57344 : Int32) = true) (hc_gt_65535 : if_icmp.holds .gt p1 (65535 : Int32) = false) (hc_le_57343 : if_icmp.holds .le p1 (57343 : Int32) = true) :
    MetFree l x (head1 (Jvm.Cond.code x code maxLocals ret :: ws) room_1) (fun a U => a = #[(.int p0), (.int p1), (.int p2)] ∧ Z.Warmed39 U.vm ∧ U.heap = h0) (fun _ _ _ _ _ => True) (fun _ U o U' => ∃ v L, o = .returned v ∧ QV (.int (1 : Int32)) h0 n0 v U'.heap L ∧ FrameEnd U o U' L room_1.cells room_1.slots) := by
  obtain ⟨S_IA5, E_IA5, F_IA5_lastCodePoint, S_BMP, E_BMP, F_BMP_lastCodePoint, S_UTF8, E_UTF8, F_UTF8_lastCodePoint⟩ := id K
  refine MetFree.of_bodySF (plainFor_of_name pn2) hisR ?_
  intro p e s m args below meth c s₁ Bd hml0 hP hK
  obtain ⟨rfl, hZ, hh⟩ := hP
  have hx := Bd.exec
  have hby := Bd.bytes
  have hml : c.maxLocals = 7 := hml0
  have hown : s.vm.findClass "com/example/plainwire/plainwire/definitions/RepertoireHoldsPinLaw" = some m.cls := findClass_of_methodNamed Bd.named
  have X0 : Stand p l e room_1 s m #[(.int p0), (.int p1), (.int p2)] below meth c s₁ [] 0 0 := Stand.of_body Bd
  have e0 : s₁.heap = h0 := by rw [← hh, Bd.state]; rfl
  have N0 := Fr.nil n0
  have pre0 : ∀ t, Steps p.tables e below (s₁.setTop (mkF m 0 #[.val (.int p0), .val (.int p1), .val (.int p2), .unset, .unset, .unset, .unset] [])) t → Steps p.tables e below (s₁.setTop (entryFrame m #[(.int p0), (.int p1), (.int p2)] maxLocals)) t := fun t k => castTop (by first | (simp [entryFrame, mkF, argsToLocals, Value.category, maxLocals]; done) | rfl) k
  obtain ⟨T1, X1, e1, st1⟩ := getS X0 hx hZ hown (host := "") (hw _ (List.mem_of_getElem? (i := 16) rfl)) Via.refl e0 S_BMP (g := (mkF m 24 #[.val (.int p0), .val (.int p1), .val (.int p2), .val (.int (1 : Int32)), .unset, .unset, .unset] [])) rfl (hb hby at_24)
  obtain ⟨cq2, kq2, q2a, q2b, q2c⟩ := isOf hZ e1 E_BMP
  obtain ⟨_, _, ⟨T2, L2, k2, n2⟩, -, X2, ⟨Lc2, hQ2, l2, y2, z2⟩, st2⟩ := X1.virtualBack hx (y := (⟨"com/example/plainwire/plainwire/definitions/Repertoire", "holds", "(I)Z"⟩ : MethodName)) (z := (⟨"com/example/plainwire/plainwire/definitions/Repertoire", "holds", "(I)Z"⟩ : MethodName)) hown (mvT hZ (hw _ (List.mem_of_getElem? (i := 9) rfl))) (mvT hZ (hw _ (List.mem_of_getElem? (i := 10) rfl))) (notFace_of_selects (args := #[]) (mvT hZ (hw _ (List.mem_of_getElem? (i := 12) rfl)))) (mvT hZ (hw _ (List.mem_of_getElem? (i := 12) rfl))) (mvT hZ (hw _ (List.mem_of_getElem? (i := 11) rfl))) (by decide) (backOf (W := 0) (r34 l Z a0 hw [] h0 n0 s_IA5 s_BMP s_UTF8 K p1 hc_lt_0 hc_gt_65535 hc_lt_55296 hc_le_57343) hZ (hw _ (List.mem_of_getElem? (i := 13) rfl)) (hw _ (List.mem_of_getElem? (i := 2) rfl)) (by decide) (by decide)) q2a q2c (g := (mkF m 170 #[.val (.int p0), .val (.int p1), .val (.int p2), .val (.int (1 : Int32)), .val (.ref s_BMP), .val (.int p1), .val (.int (0 : Int32))] [(.int p1), (.ref s_BMP)])) rfl (by rw [hml]; rfl) (Steps.refl _) (argsL := [(.int p1)]) (rest := []) (lenOf pd1 rfl) rfl (by show 2 * 0 + _ ≤ _; exact Nat.le_of_eq rfl) (hb hby at_170) (fun _ _ => ⟨rfl, e1, (by decide : 0 + 0 ≤ _), (by decide : 0 + 0 ≤ _)⟩)
  dsimp only [Pt.U, Pt.locs, Pt.cells, Pt.slots] at X2 l2 y2 z2 st2 hQ2
  subst l2 y2 z2
  obtain ⟨rfl, N2q, e2⟩ := hQ2
  have N2 := Fr.app N0 N2q
  obtain ⟨fs, hr, hrun, hended, hW, hsame⟩ := X2.leave (v := some (.int (1 : Int32))) (fun h => by rw [Bd.returns] at h; cases h)
  refine ⟨_, _, pre0 _ ?_, hrun, hended, _, _, rfl, ?_, ⟨_, rfl⟩, hW, hsame.mono (by decide) (by decide)⟩
  · show Steps p.tables e below (s₁.setTop (mkF m 0 #[.val (.int p0), .val (.int p1), .val (.int p2), .unset, .unset, .unset, .unset] [])) _
    refine XS.iloadN X0.here hx rfl (hb hby at_0) rfl ?_
    show Steps p.tables e below (s₁.setTop (mkF m 1 #[.val (.int p0), .val (.int p1), .val (.int p2), .unset, .unset, .unset, .unset] [(.int p0)])) _
    refine X0.ldcInt hx hown (mvT hZ (hw _ (List.mem_of_getElem? (i := 0) rfl))) (g := (mkF m 1 #[.val (.int p0), .val (.int p1), .val (.int p2), .unset, .unset, .unset, .unset] [(.int p0)])) rfl (hb hby at_1) _ ?_
    show Steps p.tables e below (s₁.setTop (mkF m 3 #[.val (.int p0), .val (.int p1), .val (.int p2), .unset, .unset, .unset, .unset] [(.int (2147483647 : Int32)), (.int p0)])) _
    refine XS.iand X0.here hx rfl (hb hby at_3) rfl ?_
    show Steps p.tables e below (s₁.setTop (mkF m 4 #[.val (.int p0), .val (.int p1), .val (.int p2), .unset, .unset, .unset, .unset] [(.int (p0 &&& (2147483647 : Int32)))])) _
    refine XS.iconst X0.here hx rfl (hb hby at_4) ?_
    show Steps p.tables e below (s₁.setTop (mkF m 5 #[.val (.int p0), .val (.int p1), .val (.int p2), .unset, .unset, .unset, .unset] [(.int (3 : Int32)), (.int (p0 &&& (2147483647 : Int32)))])) _
    refine Jvm.RoadKit.iremM X0 hx rfl (hb hby at_5) rfl (by decide) ?_
    show Steps p.tables e below (s₁.setTop (mkF m 6 #[.val (.int p0), .val (.int p1), .val (.int p2), .unset, .unset, .unset, .unset] [(.int ((p0 &&& (2147483647 : Int32)) % (3 : Int32)))])) _
    rw [ha]
    show Steps p.tables e below (s₁.setTop (mkF m 6 #[.val (.int p0), .val (.int p1), .val (.int p2), .unset, .unset, .unset, .unset] [(.int (1 : Int32))])) _
    refine XS.istoreN X0.here hx rfl (hb hby at_6) rfl (l' := #[.val (.int p0), .val (.int p1), .val (.int p2), .val (.int (1 : Int32)), .unset, .unset, .unset]) rfl ?_
    show Steps p.tables e below (s₁.setTop (mkF m 7 #[.val (.int p0), .val (.int p1), .val (.int p2), .val (.int (1 : Int32)), .unset, .unset, .unset] [])) _
    refine XS.iloadN X0.here hx rfl (hb hby at_7) rfl ?_
    show Steps p.tables e below (s₁.setTop (mkF m 8 #[.val (.int p0), .val (.int p1), .val (.int p2), .val (.int (1 : Int32)), .unset, .unset, .unset] [(.int (1 : Int32))])) _
    refine XS.ifYes X0.here hx rfl (pc0 := 8) (pc' := 19) rfl (hb hby at_8) rfl (by decide +kernel) (by decide) (by decide) ?_
    show Steps p.tables e below (s₁.setTop (mkF m 19 #[.val (.int p0), .val (.int p1), .val (.int p2), .val (.int (1 : Int32)), .unset, .unset, .unset] [])) _
    refine XS.iloadN X0.here hx rfl (hb hby at_19) rfl ?_
    show Steps p.tables e below (s₁.setTop (mkF m 20 #[.val (.int p0), .val (.int p1), .val (.int p2), .val (.int (1 : Int32)), .unset, .unset, .unset] [(.int (1 : Int32))])) _
    refine XS.iconst X0.here hx rfl (hb hby at_20) ?_
    show Steps p.tables e below (s₁.setTop (mkF m 21 #[.val (.int p0), .val (.int p1), .val (.int p2), .val (.int (1 : Int32)), .unset, .unset, .unset] [(.int (1 : Int32)), (.int (1 : Int32))])) _
    refine XS.icmpNo X0.here hx rfl (hb hby at_21) rfl (by decide +kernel) ?_
    show Steps p.tables e below (s₁.setTop (mkF m 24 #[.val (.int p0), .val (.int p1), .val (.int p2), .val (.int (1 : Int32)), .unset, .unset, .unset] [])) _
    refine st1 _ ?_
    show Steps p.tables e below (T1.setTop (mkF m 27 #[.val (.int p0), .val (.int p1), .val (.int p2), .val (.int (1 : Int32)), .unset, .unset, .unset] [(.ref s_BMP)])) _
    refine XS.astore X1.here hx rfl (hb hby at_27) rfl rfl (l' := #[.val (.int p0), .val (.int p1), .val (.int p2), .val (.int (1 : Int32)), .val (.ref s_BMP), .unset, .unset]) rfl ?_
    show Steps p.tables e below (T1.setTop (mkF m 29 #[.val (.int p0), .val (.int p1), .val (.int p2), .val (.int (1 : Int32)), .val (.ref s_BMP), .unset, .unset] [])) _
    refine XS.goto X1.here hx rfl (pc0 := 29) (pc' := 37) rfl (hb hby at_29) (by decide) (by decide) ?_
    show Steps p.tables e below (T1.setTop (mkF m 37 #[.val (.int p0), .val (.int p1), .val (.int p2), .val (.int (1 : Int32)), .val (.ref s_BMP), .unset, .unset] [])) _
    refine XS.iloadN X1.here hx rfl (hb hby at_37) rfl ?_
    show Steps p.tables e below (T1.setTop (mkF m 38 #[.val (.int p0), .val (.int p1), .val (.int p2), .val (.int (1 : Int32)), .val (.ref s_BMP), .unset, .unset] [(.int p2)])) _
    refine XS.bipush X1.here hx rfl (hb hby at_38) ?_
    show Steps p.tables e below (T1.setTop (mkF m 40 #[.val (.int p0), .val (.int p1), .val (.int p2), .val (.int (1 : Int32)), .val (.ref s_BMP), .unset, .unset] [(.int (8 : Int32)), (.int p2)])) _
    refine XS.iand X1.here hx rfl (hb hby at_40) rfl ?_
    show Steps p.tables e below (T1.setTop (mkF m 41 #[.val (.int p0), .val (.int p1), .val (.int p2), .val (.int (1 : Int32)), .val (.ref s_BMP), .unset, .unset] [(.int (p2 &&& (8 : Int32)))])) _
    rw [hb1]
    show Steps p.tables e below (T1.setTop (mkF m 41 #[.val (.int p0), .val (.int p1), .val (.int p2), .val (.int (1 : Int32)), .val (.ref s_BMP), .unset, .unset] [(.int (8 : Int32))])) _
    refine XS.ifNo X1.here hx rfl (hb hby at_41) rfl (by decide +kernel) ?_
    show Steps p.tables e below (T1.setTop (mkF m 44 #[.val (.int p0), .val (.int p1), .val (.int p2), .val (.int (1 : Int32)), .val (.ref s_BMP), .unset, .unset] [])) _
    refine XS.iloadN X1.here hx rfl (hb hby at_44) rfl ?_
    show Steps p.tables e below (T1.setTop (mkF m 45 #[.val (.int p0), .val (.int p1), .val (.int p2), .val (.int (1 : Int32)), .val (.ref s_BMP), .unset, .unset] [(.int p1)])) _
    refine XS.istore X1.here hx rfl (hb hby at_45) rfl (l' := #[.val (.int p0), .val (.int p1), .val (.int p2), .val (.int (1 : Int32)), .val (.ref s_BMP), .val (.int p1), .unset]) rfl ?_
    show Steps p.tables e below (T1.setTop (mkF m 47 #[.val (.int p0), .val (.int p1), .val (.int p2), .val (.int (1 : Int32)), .val (.ref s_BMP), .val (.int p1), .unset] [])) _
    refine XS.goto X1.here hx rfl (pc0 := 47) (pc' := 66) rfl (hb hby at_47) (by decide) (by decide) ?_
    show Steps p.tables e below (T1.setTop (mkF m 66 #[.val (.int p0), .val (.int p1), .val (.int p2), .val (.int (1 : Int32)), .val (.ref s_BMP), .val (.int p1), .unset] [])) _
    refine XS.iloadN X1.here hx rfl (hb hby at_66) rfl ?_
    show Steps p.tables e below (T1.setTop (mkF m 67 #[.val (.int p0), .val (.int p1), .val (.int p2), .val (.int (1 : Int32)), .val (.ref s_BMP), .val (.int p1), .unset] [(.int (1 : Int32))])) _
    refine XS.ifYes X1.here hx rfl (pc0 := 67) (pc' := 92) rfl (hb hby at_67) rfl (by decide +kernel) (by decide) (by decide) ?_
    show Steps p.tables e below (T1.setTop (mkF m 92 #[.val (.int p0), .val (.int p1), .val (.int p2), .val (.int (1 : Int32)), .val (.ref s_BMP), .val (.int p1), .unset] [])) _
    refine XS.iloadN X1.here hx rfl (hb hby at_92) rfl ?_
    show Steps p.tables e below (T1.setTop (mkF m 93 #[.val (.int p0), .val (.int p1), .val (.int p2), .val (.int (1 : Int32)), .val (.ref s_BMP), .val (.int p1), .unset] [(.int (1 : Int32))])) _
    refine XS.iconst X1.here hx rfl (hb hby at_93) ?_
    show Steps p.tables e below (T1.setTop (mkF m 94 #[.val (.int p0), .val (.int p1), .val (.int p2), .val (.int (1 : Int32)), .val (.ref s_BMP), .val (.int p1), .unset] [(.int (1 : Int32)), (.int (1 : Int32))])) _
    refine XS.icmpNo X1.here hx rfl (hb hby at_94) rfl (by decide +kernel) ?_
    show Steps p.tables e below (T1.setTop (mkF m 97 #[.val (.int p0), .val (.int p1), .val (.int p2), .val (.int (1 : Int32)), .val (.ref s_BMP), .val (.int p1), .unset] [])) _
    refine XS.iload X1.here hx rfl (hb hby at_97) rfl ?_
    show Steps p.tables e below (T1.setTop (mkF m 99 #[.val (.int p0), .val (.int p1), .val (.int p2), .val (.int (1 : Int32)), .val (.ref s_BMP), .val (.int p1), .unset] [(.int p1)])) _
    refine XS.ifNo X1.here hx rfl (hb hby at_99) rfl hc_lt_0 ?_
    show Steps p.tables e below (T1.setTop (mkF m 102 #[.val (.int p0), .val (.int p1), .val (.int p2), .val (.int (1 : Int32)), .val (.ref s_BMP), .val (.int p1), .unset] [])) _
    refine XS.iload X1.here hx rfl (hb hby at_102) rfl ?_
    show Steps p.tables e below (T1.setTop (mkF m 104 #[.val (.int p0), .val (.int p1), .val (.int p2), .val (.int (1 : Int32)), .val (.ref s_BMP), .val (.int p1), .unset] [(.int p1)])) _
    refine X1.ldcInt hx hown (mvT hZ (hw _ (List.mem_of_getElem? (i := 8) rfl))) (g := (mkF m 104 #[.val (.int p0), .val (.int p1), .val (.int p2), .val (.int (1 : Int32)), .val (.ref s_BMP), .val (.int p1), .unset] [(.int p1)])) rfl (hb hby at_104) _ ?_
    show Steps p.tables e below (T1.setTop (mkF m 106 #[.val (.int p0), .val (.int p1), .val (.int p2), .val (.int (1 : Int32)), .val (.ref s_BMP), .val (.int p1), .unset] [(.int (55296 : Int32)), (.int p1)])) _
    refine XS.icmpNo X1.here hx rfl (hb hby at_106) rfl hc_lt_55296 ?_
    show Steps p.tables e below (T1.setTop (mkF m 109 #[.val (.int p0), .val (.int p1), .val (.int p2), .val (.int (1 : Int32)), .val (.ref s_BMP), .val (.int p1), .unset] [])) _
    refine XS.iload X1.here hx rfl (hb hby at_109) rfl ?_
    show Steps p.tables e below (T1.setTop (mkF m 111 #[.val (.int p0), .val (.int p1), .val (.int p2), .val (.int (1 : Int32)), .val (.ref s_BMP), .val (.int p1), .unset] [(.int p1)])) _
    refine X1.ldcInt hx hown (mvT hZ (hw _ (List.mem_of_getElem? (i := 19) rfl))) (g := (mkF m 111 #[.val (.int p0), .val (.int p1), .val (.int p2), .val (.int (1 : Int32)), .val (.ref s_BMP), .val (.int p1), .unset] [(.int p1)])) rfl (hb hby at_111) _ ?_
    show Steps p.tables e below (T1.setTop (mkF m 113 #[.val (.int p0), .val (.int p1), .val (.int p2), .val (.int (1 : Int32)), .val (.ref s_BMP), .val (.int p1), .unset] [(.int (57344 : Int32)), (.int p1)])) _
    refine XS.icmpYes X1.here hx rfl (pc0 := 113) (pc' := 127) rfl (hb hby at_113) rfl hc_lt_57344 (by decide) (by decide) ?_
    show Steps p.tables e below (T1.setTop (mkF m 127 #[.val (.int p0), .val (.int p1), .val (.int p2), .val (.int (1 : Int32)), .val (.ref s_BMP), .val (.int p1), .unset] [])) _
    refine XS.iconst X1.here hx rfl (hb hby at_127) ?_
    show Steps p.tables e below (T1.setTop (mkF m 128 #[.val (.int p0), .val (.int p1), .val (.int p2), .val (.int (1 : Int32)), .val (.ref s_BMP), .val (.int p1), .unset] [(.int (0 : Int32))])) _
    refine XS.istore X1.here hx rfl (hb hby at_128) rfl (l' := #[.val (.int p0), .val (.int p1), .val (.int p2), .val (.int (1 : Int32)), .val (.ref s_BMP), .val (.int p1), .val (.int (0 : Int32))]) rfl ?_
    show Steps p.tables e below (T1.setTop (mkF m 130 #[.val (.int p0), .val (.int p1), .val (.int p2), .val (.int (1 : Int32)), .val (.ref s_BMP), .val (.int p1), .val (.int (0 : Int32))] [])) _
    refine XS.goto X1.here hx rfl (pc0 := 130) (pc' := 166) rfl (hb hby at_130) (by decide) (by decide) ?_
    show Steps p.tables e below (T1.setTop (mkF m 166 #[.val (.int p0), .val (.int p1), .val (.int p2), .val (.int (1 : Int32)), .val (.ref s_BMP), .val (.int p1), .val (.int (0 : Int32))] [])) _
    refine XS.aload X1.here hx rfl (hb hby at_166) rfl rfl ?_
    show Steps p.tables e below (T1.setTop (mkF m 168 #[.val (.int p0), .val (.int p1), .val (.int p2), .val (.int (1 : Int32)), .val (.ref s_BMP), .val (.int p1), .val (.int (0 : Int32))] [(.ref s_BMP)])) _
    refine XS.iload X1.here hx rfl (hb hby at_168) rfl ?_
    show Steps p.tables e below (T1.setTop (mkF m 170 #[.val (.int p0), .val (.int p1), .val (.int p2), .val (.int (1 : Int32)), .val (.ref s_BMP), .val (.int p1), .val (.int (0 : Int32))] [(.int p1), (.ref s_BMP)])) _
    refine st2.trans ?_
    show Steps p.tables e below (T2.setTop (mkF m 173 #[.val (.int p0), .val (.int p1), .val (.int p2), .val (.int (1 : Int32)), .val (.ref s_BMP), .val (.int p1), .val (.int (0 : Int32))] [(.int (0 : Int32))])) _
    refine XS.iload X2.here hx rfl (hb hby at_173) rfl ?_
    show Steps p.tables e below (T2.setTop (mkF m 175 #[.val (.int p0), .val (.int p1), .val (.int p2), .val (.int (1 : Int32)), .val (.ref s_BMP), .val (.int p1), .val (.int (0 : Int32))] [(.int (0 : Int32)), (.int (0 : Int32))])) _
    refine XS.icmpNo X2.here hx rfl (hb hby at_175) rfl (by decide +kernel) ?_
    show Steps p.tables e below (T2.setTop (mkF m 178 #[.val (.int p0), .val (.int p1), .val (.int p2), .val (.int (1 : Int32)), .val (.ref s_BMP), .val (.int p1), .val (.int (0 : Int32))] [])) _
    refine XS.iconst X2.here hx rfl (hb hby at_178) ?_
    show Steps p.tables e below (T2.setTop (mkF m 179 #[.val (.int p0), .val (.int p1), .val (.int p2), .val (.int (1 : Int32)), .val (.ref s_BMP), .val (.int p1), .val (.int (0 : Int32))] [(.int (1 : Int32))])) _
    refine XS.goto X2.here hx rfl (pc0 := 179) (pc' := 183) rfl (hb hby at_179) (by decide) (by decide) ?_
    show Steps p.tables e below (T2.setTop (mkF m 183 #[.val (.int p0), .val (.int p1), .val (.int p2), .val (.int (1 : Int32)), .val (.ref s_BMP), .val (.int p1), .val (.int (0 : Int32))] [(.int (1 : Int32))])) _
    exact retN X2 hx (t := .boolean) Bd.returns (by simp) (hb hby at_183) hr
  · exact ⟨rfl, N2, e2⟩
set_option maxRecDepth 65536 in
set_option maxHeartbeats 40000000 in
theorem r36 (l : Launch) (Z : State) (a0 : Array Value) (hw : ∀ d ∈ tables_1, d.before a0 Z = true) (ws : List Jvm.Cond) (h0 : Heap) (n0 : Nat) (s_IA5 : Addr) (s_BMP : Addr) (s_UTF8 : Addr) (K : Ctx Z h0 s_IA5 s_BMP s_UTF8) (p1 : Int32) (hc_lt_0 : ifCond.holds .lt p1 = false) (hc_gt_65535 : if_icmp.holds .gt p1 (65535 : Int32) = false) (hc_lt_55296 : if_icmp.holds .lt p1 (55296 : Int32) = false) (hc_le_57343 : if_icmp.holds .le p1 (57343 : Int32) = false) :
    MetFree l (⟨"com/example/plainwire/plainwire/definitions/Repertoire", "holds", "(I)Z"⟩ : MethodName) (head1 (Jvm.Cond.code (⟨"com/example/plainwire/plainwire/definitions/Repertoire", "holds", "(I)Z"⟩ : MethodName) prog_37_method_5_code 2 (some .boolean) :: ws) ({ frames := 0, cells := 0, slots := 0, locals := 0 } : Room)) (fun a U => a = #[(.ref s_BMP), (.int p1)] ∧ Z.Warmed39 U.vm ∧ U.heap = h0) (fun _ _ _ _ _ => True) (fun _ U o U' => ∃ v L, o = .returned v ∧ QV (.int (1 : Int32)) h0 n0 v U'.heap L ∧ FrameEnd U o U' L ({ frames := 0, cells := 0, slots := 0, locals := 0 } : Room).cells ({ frames := 0, cells := 0, slots := 0, locals := 0 } : Room).slots) := by
  obtain ⟨S_IA5, E_IA5, F_IA5_lastCodePoint, S_BMP, E_BMP, F_BMP_lastCodePoint, S_UTF8, E_UTF8, F_UTF8_lastCodePoint⟩ := id K
  refine MetFree.of_bodySF (plainFor_of_name pn1) hisR ?_
  intro p e s m args below meth c s₁ Bd hml0 hP hK
  obtain ⟨rfl, hZ, hh⟩ := hP
  have hx := Bd.exec
  have hby := Bd.bytes
  have hml : c.maxLocals = 2 := hml0
  have hown : s.vm.findClass "com/example/plainwire/plainwire/definitions/Repertoire" = some m.cls := findClass_of_methodNamed Bd.named
  have X0 : Stand p l e ({ frames := 0, cells := 0, slots := 0, locals := 0 } : Room) s m #[(.ref s_BMP), (.int p1)] below meth c s₁ [] 0 0 := Stand.of_body Bd
  have e0 : s₁.heap = h0 := by rw [← hh, Bd.state]; rfl
  have N0 := Fr.nil n0
  have pre0 : ∀ t, Steps p.tables e below (s₁.setTop (mkF m 0 #[.val (.ref s_BMP), .val (.int p1)] [])) t → Steps p.tables e below (s₁.setTop (entryFrame m #[(.ref s_BMP), (.int p1)] 2)) t := fun t k => castTop (by first | (simp [entryFrame, mkF, argsToLocals, Value.category]; done) | rfl) k
  obtain ⟨T1, X1, e1, st1⟩ := getF X0 hx hZ hown (host := "") (Or.inl (hw _ (List.mem_of_getElem? (i := 14) rfl))) Via.refl e0 F_BMP_lastCodePoint (g := (mkF m 6 #[.val (.ref s_BMP), .val (.int p1)] [(.ref s_BMP), (.int p1)])) rfl rfl (hb hby d1_6)
  obtain ⟨fs, hr, hrun, hended, hW, hsame⟩ := X1.leave (v := some (.int (1 : Int32))) (fun h => by rw [Bd.returns] at h; cases h)
  refine ⟨_, _, pre0 _ ?_, hrun, hended, _, _, rfl, ?_, ⟨_, rfl⟩, hW, hsame.mono (by decide) (by decide)⟩
  · show Steps p.tables e below (s₁.setTop (mkF m 0 #[.val (.ref s_BMP), .val (.int p1)] [])) _
    refine XS.iloadN X0.here hx rfl (hb hby d1_0) rfl ?_
    show Steps p.tables e below (s₁.setTop (mkF m 1 #[.val (.ref s_BMP), .val (.int p1)] [(.int p1)])) _
    refine XS.ifNo X0.here hx rfl (hb hby d1_1) rfl hc_lt_0 ?_
    show Steps p.tables e below (s₁.setTop (mkF m 4 #[.val (.ref s_BMP), .val (.int p1)] [])) _
    refine XS.iloadN X0.here hx rfl (hb hby d1_4) rfl ?_
    show Steps p.tables e below (s₁.setTop (mkF m 5 #[.val (.ref s_BMP), .val (.int p1)] [(.int p1)])) _
    refine XS.aloadN X0.here hx rfl (hb hby d1_5) rfl rfl ?_
    show Steps p.tables e below (s₁.setTop (mkF m 6 #[.val (.ref s_BMP), .val (.int p1)] [(.ref s_BMP), (.int p1)])) _
    refine st1 _ ?_
    show Steps p.tables e below (T1.setTop (mkF m 9 #[.val (.ref s_BMP), .val (.int p1)] [(.int (65535 : Int32)), (.int p1)])) _
    refine XS.icmpNo X1.here hx rfl (hb hby d1_9) rfl hc_gt_65535 ?_
    show Steps p.tables e below (T1.setTop (mkF m 12 #[.val (.ref s_BMP), .val (.int p1)] [])) _
    refine XS.iloadN X1.here hx rfl (hb hby d1_12) rfl ?_
    show Steps p.tables e below (T1.setTop (mkF m 13 #[.val (.ref s_BMP), .val (.int p1)] [(.int p1)])) _
    refine X1.ldcInt hx hown (mvT hZ (hw _ (List.mem_of_getElem? (i := 21) rfl))) (g := (mkF m 13 #[.val (.ref s_BMP), .val (.int p1)] [(.int p1)])) rfl (hb hby d1_13) _ ?_
    show Steps p.tables e below (T1.setTop (mkF m 15 #[.val (.ref s_BMP), .val (.int p1)] [(.int (55296 : Int32)), (.int p1)])) _
    refine XS.icmpNo X1.here hx rfl (hb hby d1_15) rfl hc_lt_55296 ?_
    show Steps p.tables e below (T1.setTop (mkF m 18 #[.val (.ref s_BMP), .val (.int p1)] [])) _
    refine XS.iloadN X1.here hx rfl (hb hby d1_18) rfl ?_
    show Steps p.tables e below (T1.setTop (mkF m 19 #[.val (.ref s_BMP), .val (.int p1)] [(.int p1)])) _
    refine X1.ldcInt hx hown (mvT hZ (hw _ (List.mem_of_getElem? (i := 22) rfl))) (g := (mkF m 19 #[.val (.ref s_BMP), .val (.int p1)] [(.int p1)])) rfl (hb hby d1_19) _ ?_
    show Steps p.tables e below (T1.setTop (mkF m 21 #[.val (.ref s_BMP), .val (.int p1)] [(.int (57343 : Int32)), (.int p1)])) _
    refine XS.icmpNo X1.here hx rfl (hb hby d1_21) rfl hc_le_57343 ?_
    show Steps p.tables e below (T1.setTop (mkF m 24 #[.val (.ref s_BMP), .val (.int p1)] [])) _
    refine XS.iconst X1.here hx rfl (hb hby d1_24) ?_
    show Steps p.tables e below (T1.setTop (mkF m 25 #[.val (.ref s_BMP), .val (.int p1)] [(.int (1 : Int32))])) _
    refine XS.goto X1.here hx rfl (pc0 := 25) (pc' := 29) rfl (hb hby d1_25) (by decide) (by decide) ?_
    show Steps p.tables e below (T1.setTop (mkF m 29 #[.val (.ref s_BMP), .val (.int p1)] [(.int (1 : Int32))])) _
    exact retN X1 hx (t := .boolean) Bd.returns (by simp) (hb hby d1_29) hr
  · exact ⟨rfl, N0, e1⟩
set_option maxRecDepth 65536 in
set_option maxHeartbeats 40000000 in
theorem law_k1_8_3 (l : Launch) (Z : State) (a0 : Array Value) (hw : ∀ d ∈ tables_1, d.before a0 Z = true) (ws : List Jvm.Cond) (h0 : Heap) (n0 : Nat) (s_IA5 : Addr) (s_BMP : Addr) (s_UTF8 : Addr) (K : Ctx Z h0 s_IA5 s_BMP s_UTF8) (p0 : Int32) (p1 : Int32) (p2 : Int32) (ha : ((p0 &&& (2147483647 : Int32)) % (3 : Int32)) = (1 : Int32)) (hb1 : (p2 &&& (8 : Int32)) = (8 : Int32)) (hc_lt_0 : ifCond.holds .lt p1 = false) (hc_lt_55296 : if_icmp.holds .lt p1 (55296 : Int32) = false) (hc_lt_57344 : if_icmp.holds .lt p1 (57344 : Int32) = false) (hc_gt_65535 : if_icmp.holds .gt p1 (65535 : Int32) = false) (hc_le_57343 : if_icmp.holds .le p1 (57343 : Int32) = false) :
    MetFree l x (head1 (Jvm.Cond.code x code maxLocals ret :: ws) room_1) (fun a U => a = #[(.int p0), (.int p1), (.int p2)] ∧ Z.Warmed39 U.vm ∧ U.heap = h0) (fun _ _ _ _ _ => True) (fun _ U o U' => ∃ v L, o = .returned v ∧ QV (.int (1 : Int32)) h0 n0 v U'.heap L ∧ FrameEnd U o U' L room_1.cells room_1.slots) := by
  obtain ⟨S_IA5, E_IA5, F_IA5_lastCodePoint, S_BMP, E_BMP, F_BMP_lastCodePoint, S_UTF8, E_UTF8, F_UTF8_lastCodePoint⟩ := id K
  refine MetFree.of_bodySF (plainFor_of_name pn2) hisR ?_
  intro p e s m args below meth c s₁ Bd hml0 hP hK
  obtain ⟨rfl, hZ, hh⟩ := hP
  have hx := Bd.exec
  have hby := Bd.bytes
  have hml : c.maxLocals = 7 := hml0
  have hown : s.vm.findClass "com/example/plainwire/plainwire/definitions/RepertoireHoldsPinLaw" = some m.cls := findClass_of_methodNamed Bd.named
  have X0 : Stand p l e room_1 s m #[(.int p0), (.int p1), (.int p2)] below meth c s₁ [] 0 0 := Stand.of_body Bd
  have e0 : s₁.heap = h0 := by rw [← hh, Bd.state]; rfl
  have N0 := Fr.nil n0
  have pre0 : ∀ t, Steps p.tables e below (s₁.setTop (mkF m 0 #[.val (.int p0), .val (.int p1), .val (.int p2), .unset, .unset, .unset, .unset] [])) t → Steps p.tables e below (s₁.setTop (entryFrame m #[(.int p0), (.int p1), (.int p2)] maxLocals)) t := fun t k => castTop (by first | (simp [entryFrame, mkF, argsToLocals, Value.category, maxLocals]; done) | rfl) k
  obtain ⟨T1, X1, e1, st1⟩ := getS X0 hx hZ hown (host := "") (hw _ (List.mem_of_getElem? (i := 16) rfl)) Via.refl e0 S_BMP (g := (mkF m 24 #[.val (.int p0), .val (.int p1), .val (.int p2), .val (.int (1 : Int32)), .unset, .unset, .unset] [])) rfl (hb hby at_24)
  obtain ⟨cq2, kq2, q2a, q2b, q2c⟩ := isOf hZ e1 E_BMP
  obtain ⟨_, _, ⟨T2, L2, k2, n2⟩, -, X2, ⟨Lc2, hQ2, l2, y2, z2⟩, st2⟩ := X1.virtualBack hx (y := (⟨"com/example/plainwire/plainwire/definitions/Repertoire", "holds", "(I)Z"⟩ : MethodName)) (z := (⟨"com/example/plainwire/plainwire/definitions/Repertoire", "holds", "(I)Z"⟩ : MethodName)) hown (mvT hZ (hw _ (List.mem_of_getElem? (i := 9) rfl))) (mvT hZ (hw _ (List.mem_of_getElem? (i := 10) rfl))) (notFace_of_selects (args := #[]) (mvT hZ (hw _ (List.mem_of_getElem? (i := 12) rfl)))) (mvT hZ (hw _ (List.mem_of_getElem? (i := 12) rfl))) (mvT hZ (hw _ (List.mem_of_getElem? (i := 11) rfl))) (by decide) (backOf (W := 0) (r36 l Z a0 hw [] h0 n0 s_IA5 s_BMP s_UTF8 K p1 hc_lt_0 hc_gt_65535 hc_lt_55296 hc_le_57343) hZ (hw _ (List.mem_of_getElem? (i := 13) rfl)) (hw _ (List.mem_of_getElem? (i := 2) rfl)) (by decide) (by decide)) q2a q2c (g := (mkF m 170 #[.val (.int p0), .val (.int p1), .val (.int p2), .val (.int (1 : Int32)), .val (.ref s_BMP), .val (.int p1), .val (.int (1 : Int32))] [(.int p1), (.ref s_BMP)])) rfl (by rw [hml]; rfl) (Steps.refl _) (argsL := [(.int p1)]) (rest := []) (lenOf pd1 rfl) rfl (by show 2 * 0 + _ ≤ _; exact Nat.le_of_eq rfl) (hb hby at_170) (fun _ _ => ⟨rfl, e1, (by decide : 0 + 0 ≤ _), (by decide : 0 + 0 ≤ _)⟩)
  dsimp only [Pt.U, Pt.locs, Pt.cells, Pt.slots] at X2 l2 y2 z2 st2 hQ2
  subst l2 y2 z2
  obtain ⟨rfl, N2q, e2⟩ := hQ2
  have N2 := Fr.app N0 N2q
  obtain ⟨fs, hr, hrun, hended, hW, hsame⟩ := X2.leave (v := some (.int (1 : Int32))) (fun h => by rw [Bd.returns] at h; cases h)
  refine ⟨_, _, pre0 _ ?_, hrun, hended, _, _, rfl, ?_, ⟨_, rfl⟩, hW, hsame.mono (by decide) (by decide)⟩
  · show Steps p.tables e below (s₁.setTop (mkF m 0 #[.val (.int p0), .val (.int p1), .val (.int p2), .unset, .unset, .unset, .unset] [])) _
    refine XS.iloadN X0.here hx rfl (hb hby at_0) rfl ?_
    show Steps p.tables e below (s₁.setTop (mkF m 1 #[.val (.int p0), .val (.int p1), .val (.int p2), .unset, .unset, .unset, .unset] [(.int p0)])) _
    refine X0.ldcInt hx hown (mvT hZ (hw _ (List.mem_of_getElem? (i := 0) rfl))) (g := (mkF m 1 #[.val (.int p0), .val (.int p1), .val (.int p2), .unset, .unset, .unset, .unset] [(.int p0)])) rfl (hb hby at_1) _ ?_
    show Steps p.tables e below (s₁.setTop (mkF m 3 #[.val (.int p0), .val (.int p1), .val (.int p2), .unset, .unset, .unset, .unset] [(.int (2147483647 : Int32)), (.int p0)])) _
    refine XS.iand X0.here hx rfl (hb hby at_3) rfl ?_
    show Steps p.tables e below (s₁.setTop (mkF m 4 #[.val (.int p0), .val (.int p1), .val (.int p2), .unset, .unset, .unset, .unset] [(.int (p0 &&& (2147483647 : Int32)))])) _
    refine XS.iconst X0.here hx rfl (hb hby at_4) ?_
    show Steps p.tables e below (s₁.setTop (mkF m 5 #[.val (.int p0), .val (.int p1), .val (.int p2), .unset, .unset, .unset, .unset] [(.int (3 : Int32)), (.int (p0 &&& (2147483647 : Int32)))])) _
    refine Jvm.RoadKit.iremM X0 hx rfl (hb hby at_5) rfl (by decide) ?_
    show Steps p.tables e below (s₁.setTop (mkF m 6 #[.val (.int p0), .val (.int p1), .val (.int p2), .unset, .unset, .unset, .unset] [(.int ((p0 &&& (2147483647 : Int32)) % (3 : Int32)))])) _
    rw [ha]
    show Steps p.tables e below (s₁.setTop (mkF m 6 #[.val (.int p0), .val (.int p1), .val (.int p2), .unset, .unset, .unset, .unset] [(.int (1 : Int32))])) _
    refine XS.istoreN X0.here hx rfl (hb hby at_6) rfl (l' := #[.val (.int p0), .val (.int p1), .val (.int p2), .val (.int (1 : Int32)), .unset, .unset, .unset]) rfl ?_
    show Steps p.tables e below (s₁.setTop (mkF m 7 #[.val (.int p0), .val (.int p1), .val (.int p2), .val (.int (1 : Int32)), .unset, .unset, .unset] [])) _
    refine XS.iloadN X0.here hx rfl (hb hby at_7) rfl ?_
    show Steps p.tables e below (s₁.setTop (mkF m 8 #[.val (.int p0), .val (.int p1), .val (.int p2), .val (.int (1 : Int32)), .unset, .unset, .unset] [(.int (1 : Int32))])) _
    refine XS.ifYes X0.here hx rfl (pc0 := 8) (pc' := 19) rfl (hb hby at_8) rfl (by decide +kernel) (by decide) (by decide) ?_
    show Steps p.tables e below (s₁.setTop (mkF m 19 #[.val (.int p0), .val (.int p1), .val (.int p2), .val (.int (1 : Int32)), .unset, .unset, .unset] [])) _
    refine XS.iloadN X0.here hx rfl (hb hby at_19) rfl ?_
    show Steps p.tables e below (s₁.setTop (mkF m 20 #[.val (.int p0), .val (.int p1), .val (.int p2), .val (.int (1 : Int32)), .unset, .unset, .unset] [(.int (1 : Int32))])) _
    refine XS.iconst X0.here hx rfl (hb hby at_20) ?_
    show Steps p.tables e below (s₁.setTop (mkF m 21 #[.val (.int p0), .val (.int p1), .val (.int p2), .val (.int (1 : Int32)), .unset, .unset, .unset] [(.int (1 : Int32)), (.int (1 : Int32))])) _
    refine XS.icmpNo X0.here hx rfl (hb hby at_21) rfl (by decide +kernel) ?_
    show Steps p.tables e below (s₁.setTop (mkF m 24 #[.val (.int p0), .val (.int p1), .val (.int p2), .val (.int (1 : Int32)), .unset, .unset, .unset] [])) _
    refine st1 _ ?_
    show Steps p.tables e below (T1.setTop (mkF m 27 #[.val (.int p0), .val (.int p1), .val (.int p2), .val (.int (1 : Int32)), .unset, .unset, .unset] [(.ref s_BMP)])) _
    refine XS.astore X1.here hx rfl (hb hby at_27) rfl rfl (l' := #[.val (.int p0), .val (.int p1), .val (.int p2), .val (.int (1 : Int32)), .val (.ref s_BMP), .unset, .unset]) rfl ?_
    show Steps p.tables e below (T1.setTop (mkF m 29 #[.val (.int p0), .val (.int p1), .val (.int p2), .val (.int (1 : Int32)), .val (.ref s_BMP), .unset, .unset] [])) _
    refine XS.goto X1.here hx rfl (pc0 := 29) (pc' := 37) rfl (hb hby at_29) (by decide) (by decide) ?_
    show Steps p.tables e below (T1.setTop (mkF m 37 #[.val (.int p0), .val (.int p1), .val (.int p2), .val (.int (1 : Int32)), .val (.ref s_BMP), .unset, .unset] [])) _
    refine XS.iloadN X1.here hx rfl (hb hby at_37) rfl ?_
    show Steps p.tables e below (T1.setTop (mkF m 38 #[.val (.int p0), .val (.int p1), .val (.int p2), .val (.int (1 : Int32)), .val (.ref s_BMP), .unset, .unset] [(.int p2)])) _
    refine XS.bipush X1.here hx rfl (hb hby at_38) ?_
    show Steps p.tables e below (T1.setTop (mkF m 40 #[.val (.int p0), .val (.int p1), .val (.int p2), .val (.int (1 : Int32)), .val (.ref s_BMP), .unset, .unset] [(.int (8 : Int32)), (.int p2)])) _
    refine XS.iand X1.here hx rfl (hb hby at_40) rfl ?_
    show Steps p.tables e below (T1.setTop (mkF m 41 #[.val (.int p0), .val (.int p1), .val (.int p2), .val (.int (1 : Int32)), .val (.ref s_BMP), .unset, .unset] [(.int (p2 &&& (8 : Int32)))])) _
    rw [hb1]
    show Steps p.tables e below (T1.setTop (mkF m 41 #[.val (.int p0), .val (.int p1), .val (.int p2), .val (.int (1 : Int32)), .val (.ref s_BMP), .unset, .unset] [(.int (8 : Int32))])) _
    refine XS.ifNo X1.here hx rfl (hb hby at_41) rfl (by decide +kernel) ?_
    show Steps p.tables e below (T1.setTop (mkF m 44 #[.val (.int p0), .val (.int p1), .val (.int p2), .val (.int (1 : Int32)), .val (.ref s_BMP), .unset, .unset] [])) _
    refine XS.iloadN X1.here hx rfl (hb hby at_44) rfl ?_
    show Steps p.tables e below (T1.setTop (mkF m 45 #[.val (.int p0), .val (.int p1), .val (.int p2), .val (.int (1 : Int32)), .val (.ref s_BMP), .unset, .unset] [(.int p1)])) _
    refine XS.istore X1.here hx rfl (hb hby at_45) rfl (l' := #[.val (.int p0), .val (.int p1), .val (.int p2), .val (.int (1 : Int32)), .val (.ref s_BMP), .val (.int p1), .unset]) rfl ?_
    show Steps p.tables e below (T1.setTop (mkF m 47 #[.val (.int p0), .val (.int p1), .val (.int p2), .val (.int (1 : Int32)), .val (.ref s_BMP), .val (.int p1), .unset] [])) _
    refine XS.goto X1.here hx rfl (pc0 := 47) (pc' := 66) rfl (hb hby at_47) (by decide) (by decide) ?_
    show Steps p.tables e below (T1.setTop (mkF m 66 #[.val (.int p0), .val (.int p1), .val (.int p2), .val (.int (1 : Int32)), .val (.ref s_BMP), .val (.int p1), .unset] [])) _
    refine XS.iloadN X1.here hx rfl (hb hby at_66) rfl ?_
    show Steps p.tables e below (T1.setTop (mkF m 67 #[.val (.int p0), .val (.int p1), .val (.int p2), .val (.int (1 : Int32)), .val (.ref s_BMP), .val (.int p1), .unset] [(.int (1 : Int32))])) _
    refine XS.ifYes X1.here hx rfl (pc0 := 67) (pc' := 92) rfl (hb hby at_67) rfl (by decide +kernel) (by decide) (by decide) ?_
    show Steps p.tables e below (T1.setTop (mkF m 92 #[.val (.int p0), .val (.int p1), .val (.int p2), .val (.int (1 : Int32)), .val (.ref s_BMP), .val (.int p1), .unset] [])) _
    refine XS.iloadN X1.here hx rfl (hb hby at_92) rfl ?_
    show Steps p.tables e below (T1.setTop (mkF m 93 #[.val (.int p0), .val (.int p1), .val (.int p2), .val (.int (1 : Int32)), .val (.ref s_BMP), .val (.int p1), .unset] [(.int (1 : Int32))])) _
    refine XS.iconst X1.here hx rfl (hb hby at_93) ?_
    show Steps p.tables e below (T1.setTop (mkF m 94 #[.val (.int p0), .val (.int p1), .val (.int p2), .val (.int (1 : Int32)), .val (.ref s_BMP), .val (.int p1), .unset] [(.int (1 : Int32)), (.int (1 : Int32))])) _
    refine XS.icmpNo X1.here hx rfl (hb hby at_94) rfl (by decide +kernel) ?_
    show Steps p.tables e below (T1.setTop (mkF m 97 #[.val (.int p0), .val (.int p1), .val (.int p2), .val (.int (1 : Int32)), .val (.ref s_BMP), .val (.int p1), .unset] [])) _
    refine XS.iload X1.here hx rfl (hb hby at_97) rfl ?_
    show Steps p.tables e below (T1.setTop (mkF m 99 #[.val (.int p0), .val (.int p1), .val (.int p2), .val (.int (1 : Int32)), .val (.ref s_BMP), .val (.int p1), .unset] [(.int p1)])) _
    refine XS.ifNo X1.here hx rfl (hb hby at_99) rfl hc_lt_0 ?_
    show Steps p.tables e below (T1.setTop (mkF m 102 #[.val (.int p0), .val (.int p1), .val (.int p2), .val (.int (1 : Int32)), .val (.ref s_BMP), .val (.int p1), .unset] [])) _
    refine XS.iload X1.here hx rfl (hb hby at_102) rfl ?_
    show Steps p.tables e below (T1.setTop (mkF m 104 #[.val (.int p0), .val (.int p1), .val (.int p2), .val (.int (1 : Int32)), .val (.ref s_BMP), .val (.int p1), .unset] [(.int p1)])) _
    refine X1.ldcInt hx hown (mvT hZ (hw _ (List.mem_of_getElem? (i := 8) rfl))) (g := (mkF m 104 #[.val (.int p0), .val (.int p1), .val (.int p2), .val (.int (1 : Int32)), .val (.ref s_BMP), .val (.int p1), .unset] [(.int p1)])) rfl (hb hby at_104) _ ?_
    show Steps p.tables e below (T1.setTop (mkF m 106 #[.val (.int p0), .val (.int p1), .val (.int p2), .val (.int (1 : Int32)), .val (.ref s_BMP), .val (.int p1), .unset] [(.int (55296 : Int32)), (.int p1)])) _
    refine XS.icmpNo X1.here hx rfl (hb hby at_106) rfl hc_lt_55296 ?_
    show Steps p.tables e below (T1.setTop (mkF m 109 #[.val (.int p0), .val (.int p1), .val (.int p2), .val (.int (1 : Int32)), .val (.ref s_BMP), .val (.int p1), .unset] [])) _
    refine XS.iload X1.here hx rfl (hb hby at_109) rfl ?_
    show Steps p.tables e below (T1.setTop (mkF m 111 #[.val (.int p0), .val (.int p1), .val (.int p2), .val (.int (1 : Int32)), .val (.ref s_BMP), .val (.int p1), .unset] [(.int p1)])) _
    refine X1.ldcInt hx hown (mvT hZ (hw _ (List.mem_of_getElem? (i := 19) rfl))) (g := (mkF m 111 #[.val (.int p0), .val (.int p1), .val (.int p2), .val (.int (1 : Int32)), .val (.ref s_BMP), .val (.int p1), .unset] [(.int p1)])) rfl (hb hby at_111) _ ?_
    show Steps p.tables e below (T1.setTop (mkF m 113 #[.val (.int p0), .val (.int p1), .val (.int p2), .val (.int (1 : Int32)), .val (.ref s_BMP), .val (.int p1), .unset] [(.int (57344 : Int32)), (.int p1)])) _
    refine XS.icmpNo X1.here hx rfl (hb hby at_113) rfl hc_lt_57344 ?_
    show Steps p.tables e below (T1.setTop (mkF m 116 #[.val (.int p0), .val (.int p1), .val (.int p2), .val (.int (1 : Int32)), .val (.ref s_BMP), .val (.int p1), .unset] [])) _
    refine XS.iload X1.here hx rfl (hb hby at_116) rfl ?_
    show Steps p.tables e below (T1.setTop (mkF m 118 #[.val (.int p0), .val (.int p1), .val (.int p2), .val (.int (1 : Int32)), .val (.ref s_BMP), .val (.int p1), .unset] [(.int p1)])) _
    refine X1.ldcInt hx hown (mvT hZ (hw _ (List.mem_of_getElem? (i := 20) rfl))) (g := (mkF m 118 #[.val (.int p0), .val (.int p1), .val (.int p2), .val (.int (1 : Int32)), .val (.ref s_BMP), .val (.int p1), .unset] [(.int p1)])) rfl (hb hby at_118) _ ?_
    show Steps p.tables e below (T1.setTop (mkF m 120 #[.val (.int p0), .val (.int p1), .val (.int p2), .val (.int (1 : Int32)), .val (.ref s_BMP), .val (.int p1), .unset] [(.int (65535 : Int32)), (.int p1)])) _
    refine XS.icmpNo X1.here hx rfl (hb hby at_120) rfl hc_gt_65535 ?_
    show Steps p.tables e below (T1.setTop (mkF m 123 #[.val (.int p0), .val (.int p1), .val (.int p2), .val (.int (1 : Int32)), .val (.ref s_BMP), .val (.int p1), .unset] [])) _
    refine XS.iconst X1.here hx rfl (hb hby at_123) ?_
    show Steps p.tables e below (T1.setTop (mkF m 124 #[.val (.int p0), .val (.int p1), .val (.int p2), .val (.int (1 : Int32)), .val (.ref s_BMP), .val (.int p1), .unset] [(.int (1 : Int32))])) _
    refine XS.goto X1.here hx rfl (pc0 := 124) (pc' := 128) rfl (hb hby at_124) (by decide) (by decide) ?_
    show Steps p.tables e below (T1.setTop (mkF m 128 #[.val (.int p0), .val (.int p1), .val (.int p2), .val (.int (1 : Int32)), .val (.ref s_BMP), .val (.int p1), .unset] [(.int (1 : Int32))])) _
    refine XS.istore X1.here hx rfl (hb hby at_128) rfl (l' := #[.val (.int p0), .val (.int p1), .val (.int p2), .val (.int (1 : Int32)), .val (.ref s_BMP), .val (.int p1), .val (.int (1 : Int32))]) rfl ?_
    show Steps p.tables e below (T1.setTop (mkF m 130 #[.val (.int p0), .val (.int p1), .val (.int p2), .val (.int (1 : Int32)), .val (.ref s_BMP), .val (.int p1), .val (.int (1 : Int32))] [])) _
    refine XS.goto X1.here hx rfl (pc0 := 130) (pc' := 166) rfl (hb hby at_130) (by decide) (by decide) ?_
    show Steps p.tables e below (T1.setTop (mkF m 166 #[.val (.int p0), .val (.int p1), .val (.int p2), .val (.int (1 : Int32)), .val (.ref s_BMP), .val (.int p1), .val (.int (1 : Int32))] [])) _
    refine XS.aload X1.here hx rfl (hb hby at_166) rfl rfl ?_
    show Steps p.tables e below (T1.setTop (mkF m 168 #[.val (.int p0), .val (.int p1), .val (.int p2), .val (.int (1 : Int32)), .val (.ref s_BMP), .val (.int p1), .val (.int (1 : Int32))] [(.ref s_BMP)])) _
    refine XS.iload X1.here hx rfl (hb hby at_168) rfl ?_
    show Steps p.tables e below (T1.setTop (mkF m 170 #[.val (.int p0), .val (.int p1), .val (.int p2), .val (.int (1 : Int32)), .val (.ref s_BMP), .val (.int p1), .val (.int (1 : Int32))] [(.int p1), (.ref s_BMP)])) _
    refine st2.trans ?_
    show Steps p.tables e below (T2.setTop (mkF m 173 #[.val (.int p0), .val (.int p1), .val (.int p2), .val (.int (1 : Int32)), .val (.ref s_BMP), .val (.int p1), .val (.int (1 : Int32))] [(.int (1 : Int32))])) _
    refine XS.iload X2.here hx rfl (hb hby at_173) rfl ?_
    show Steps p.tables e below (T2.setTop (mkF m 175 #[.val (.int p0), .val (.int p1), .val (.int p2), .val (.int (1 : Int32)), .val (.ref s_BMP), .val (.int p1), .val (.int (1 : Int32))] [(.int (1 : Int32)), (.int (1 : Int32))])) _
    refine XS.icmpNo X2.here hx rfl (hb hby at_175) rfl (by decide +kernel) ?_
    show Steps p.tables e below (T2.setTop (mkF m 178 #[.val (.int p0), .val (.int p1), .val (.int p2), .val (.int (1 : Int32)), .val (.ref s_BMP), .val (.int p1), .val (.int (1 : Int32))] [])) _
    refine XS.iconst X2.here hx rfl (hb hby at_178) ?_
    show Steps p.tables e below (T2.setTop (mkF m 179 #[.val (.int p0), .val (.int p1), .val (.int p2), .val (.int (1 : Int32)), .val (.ref s_BMP), .val (.int p1), .val (.int (1 : Int32))] [(.int (1 : Int32))])) _
    refine XS.goto X2.here hx rfl (pc0 := 179) (pc' := 183) rfl (hb hby at_179) (by decide) (by decide) ?_
    show Steps p.tables e below (T2.setTop (mkF m 183 #[.val (.int p0), .val (.int p1), .val (.int p2), .val (.int (1 : Int32)), .val (.ref s_BMP), .val (.int p1), .val (.int (1 : Int32))] [(.int (1 : Int32))])) _
    exact retN X2 hx (t := .boolean) Bd.returns (by simp) (hb hby at_183) hr
  · exact ⟨rfl, N2, e2⟩
set_option maxRecDepth 65536 in
set_option maxHeartbeats 40000000 in
theorem r38 (l : Launch) (Z : State) (a0 : Array Value) (hw : ∀ d ∈ tables_1, d.before a0 Z = true) (ws : List Jvm.Cond) (h0 : Heap) (n0 : Nat) (s_IA5 : Addr) (s_BMP : Addr) (s_UTF8 : Addr) (K : Ctx Z h0 s_IA5 s_BMP s_UTF8) (p1 : Int32) (hc_lt_0 : ifCond.holds .lt p1 = false) (hc_gt_65535 : if_icmp.holds .gt p1 (65535 : Int32) = true) :
    MetFree l (⟨"com/example/plainwire/plainwire/definitions/Repertoire", "holds", "(I)Z"⟩ : MethodName) (head1 (Jvm.Cond.code (⟨"com/example/plainwire/plainwire/definitions/Repertoire", "holds", "(I)Z"⟩ : MethodName) prog_37_method_5_code 2 (some .boolean) :: ws) ({ frames := 0, cells := 0, slots := 0, locals := 0 } : Room)) (fun a U => a = #[(.ref s_BMP), (.int p1)] ∧ Z.Warmed39 U.vm ∧ U.heap = h0) (fun _ _ _ _ _ => True) (fun _ U o U' => ∃ v L, o = .returned v ∧ QV (.int (0 : Int32)) h0 n0 v U'.heap L ∧ FrameEnd U o U' L ({ frames := 0, cells := 0, slots := 0, locals := 0 } : Room).cells ({ frames := 0, cells := 0, slots := 0, locals := 0 } : Room).slots) := by
  obtain ⟨S_IA5, E_IA5, F_IA5_lastCodePoint, S_BMP, E_BMP, F_BMP_lastCodePoint, S_UTF8, E_UTF8, F_UTF8_lastCodePoint⟩ := id K
  refine MetFree.of_bodySF (plainFor_of_name pn1) hisR ?_
  intro p e s m args below meth c s₁ Bd hml0 hP hK
  obtain ⟨rfl, hZ, hh⟩ := hP
  have hx := Bd.exec
  have hby := Bd.bytes
  have hml : c.maxLocals = 2 := hml0
  have hown : s.vm.findClass "com/example/plainwire/plainwire/definitions/Repertoire" = some m.cls := findClass_of_methodNamed Bd.named
  have X0 : Stand p l e ({ frames := 0, cells := 0, slots := 0, locals := 0 } : Room) s m #[(.ref s_BMP), (.int p1)] below meth c s₁ [] 0 0 := Stand.of_body Bd
  have e0 : s₁.heap = h0 := by rw [← hh, Bd.state]; rfl
  have N0 := Fr.nil n0
  have pre0 : ∀ t, Steps p.tables e below (s₁.setTop (mkF m 0 #[.val (.ref s_BMP), .val (.int p1)] [])) t → Steps p.tables e below (s₁.setTop (entryFrame m #[(.ref s_BMP), (.int p1)] 2)) t := fun t k => castTop (by first | (simp [entryFrame, mkF, argsToLocals, Value.category]; done) | rfl) k
  obtain ⟨T1, X1, e1, st1⟩ := getF X0 hx hZ hown (host := "") (Or.inl (hw _ (List.mem_of_getElem? (i := 14) rfl))) Via.refl e0 F_BMP_lastCodePoint (g := (mkF m 6 #[.val (.ref s_BMP), .val (.int p1)] [(.ref s_BMP), (.int p1)])) rfl rfl (hb hby d1_6)
  obtain ⟨fs, hr, hrun, hended, hW, hsame⟩ := X1.leave (v := some (.int (0 : Int32))) (fun h => by rw [Bd.returns] at h; cases h)
  refine ⟨_, _, pre0 _ ?_, hrun, hended, _, _, rfl, ?_, ⟨_, rfl⟩, hW, hsame.mono (by decide) (by decide)⟩
  · show Steps p.tables e below (s₁.setTop (mkF m 0 #[.val (.ref s_BMP), .val (.int p1)] [])) _
    refine XS.iloadN X0.here hx rfl (hb hby d1_0) rfl ?_
    show Steps p.tables e below (s₁.setTop (mkF m 1 #[.val (.ref s_BMP), .val (.int p1)] [(.int p1)])) _
    refine XS.ifNo X0.here hx rfl (hb hby d1_1) rfl hc_lt_0 ?_
    show Steps p.tables e below (s₁.setTop (mkF m 4 #[.val (.ref s_BMP), .val (.int p1)] [])) _
    refine XS.iloadN X0.here hx rfl (hb hby d1_4) rfl ?_
    show Steps p.tables e below (s₁.setTop (mkF m 5 #[.val (.ref s_BMP), .val (.int p1)] [(.int p1)])) _
    refine XS.aloadN X0.here hx rfl (hb hby d1_5) rfl rfl ?_
    show Steps p.tables e below (s₁.setTop (mkF m 6 #[.val (.ref s_BMP), .val (.int p1)] [(.ref s_BMP), (.int p1)])) _
    refine st1 _ ?_
    show Steps p.tables e below (T1.setTop (mkF m 9 #[.val (.ref s_BMP), .val (.int p1)] [(.int (65535 : Int32)), (.int p1)])) _
    refine XS.icmpYes X1.here hx rfl (pc0 := 9) (pc' := 28) rfl (hb hby d1_9) rfl hc_gt_65535 (by decide) (by decide) ?_
    show Steps p.tables e below (T1.setTop (mkF m 28 #[.val (.ref s_BMP), .val (.int p1)] [])) _
    refine XS.iconst X1.here hx rfl (hb hby d1_28) ?_
    show Steps p.tables e below (T1.setTop (mkF m 29 #[.val (.ref s_BMP), .val (.int p1)] [(.int (0 : Int32))])) _
    exact retN X1 hx (t := .boolean) Bd.returns (by simp) (hb hby d1_29) hr
  · exact ⟨rfl, N0, e1⟩
set_option maxRecDepth 65536 in
set_option maxHeartbeats 40000000 in
theorem law_k1_8_4 (l : Launch) (Z : State) (a0 : Array Value) (hw : ∀ d ∈ tables_1, d.before a0 Z = true) (ws : List Jvm.Cond) (h0 : Heap) (n0 : Nat) (s_IA5 : Addr) (s_BMP : Addr) (s_UTF8 : Addr) (K : Ctx Z h0 s_IA5 s_BMP s_UTF8) (p0 : Int32) (p1 : Int32) (p2 : Int32) (ha : ((p0 &&& (2147483647 : Int32)) % (3 : Int32)) = (1 : Int32)) (hb1 : (p2 &&& (8 : Int32)) = (8 : Int32)) (hc_lt_0 : ifCond.holds .lt p1 = false) (hc_lt_55296 : if_icmp.holds .lt p1 (55296 : Int32) = false) (hc_lt_57344 : if_icmp.holds .lt p1 (57344 : Int32) = false) (hc_gt_65535 : if_icmp.holds .gt p1 (65535 : Int32) = true) :
    MetFree l x (head1 (Jvm.Cond.code x code maxLocals ret :: ws) room_1) (fun a U => a = #[(.int p0), (.int p1), (.int p2)] ∧ Z.Warmed39 U.vm ∧ U.heap = h0) (fun _ _ _ _ _ => True) (fun _ U o U' => ∃ v L, o = .returned v ∧ QV (.int (1 : Int32)) h0 n0 v U'.heap L ∧ FrameEnd U o U' L room_1.cells room_1.slots) := by
  obtain ⟨S_IA5, E_IA5, F_IA5_lastCodePoint, S_BMP, E_BMP, F_BMP_lastCodePoint, S_UTF8, E_UTF8, F_UTF8_lastCodePoint⟩ := id K
  refine MetFree.of_bodySF (plainFor_of_name pn2) hisR ?_
  intro p e s m args below meth c s₁ Bd hml0 hP hK
  obtain ⟨rfl, hZ, hh⟩ := hP
  have hx := Bd.exec
  have hby := Bd.bytes
  have hml : c.maxLocals = 7 := hml0
  have hown : s.vm.findClass "com/example/plainwire/plainwire/definitions/RepertoireHoldsPinLaw" = some m.cls := findClass_of_methodNamed Bd.named
  have X0 : Stand p l e room_1 s m #[(.int p0), (.int p1), (.int p2)] below meth c s₁ [] 0 0 := Stand.of_body Bd
  have e0 : s₁.heap = h0 := by rw [← hh, Bd.state]; rfl
  have N0 := Fr.nil n0
  have pre0 : ∀ t, Steps p.tables e below (s₁.setTop (mkF m 0 #[.val (.int p0), .val (.int p1), .val (.int p2), .unset, .unset, .unset, .unset] [])) t → Steps p.tables e below (s₁.setTop (entryFrame m #[(.int p0), (.int p1), (.int p2)] maxLocals)) t := fun t k => castTop (by first | (simp [entryFrame, mkF, argsToLocals, Value.category, maxLocals]; done) | rfl) k
  obtain ⟨T1, X1, e1, st1⟩ := getS X0 hx hZ hown (host := "") (hw _ (List.mem_of_getElem? (i := 16) rfl)) Via.refl e0 S_BMP (g := (mkF m 24 #[.val (.int p0), .val (.int p1), .val (.int p2), .val (.int (1 : Int32)), .unset, .unset, .unset] [])) rfl (hb hby at_24)
  obtain ⟨cq2, kq2, q2a, q2b, q2c⟩ := isOf hZ e1 E_BMP
  obtain ⟨_, _, ⟨T2, L2, k2, n2⟩, -, X2, ⟨Lc2, hQ2, l2, y2, z2⟩, st2⟩ := X1.virtualBack hx (y := (⟨"com/example/plainwire/plainwire/definitions/Repertoire", "holds", "(I)Z"⟩ : MethodName)) (z := (⟨"com/example/plainwire/plainwire/definitions/Repertoire", "holds", "(I)Z"⟩ : MethodName)) hown (mvT hZ (hw _ (List.mem_of_getElem? (i := 9) rfl))) (mvT hZ (hw _ (List.mem_of_getElem? (i := 10) rfl))) (notFace_of_selects (args := #[]) (mvT hZ (hw _ (List.mem_of_getElem? (i := 12) rfl)))) (mvT hZ (hw _ (List.mem_of_getElem? (i := 12) rfl))) (mvT hZ (hw _ (List.mem_of_getElem? (i := 11) rfl))) (by decide) (backOf (W := 0) (r38 l Z a0 hw [] h0 n0 s_IA5 s_BMP s_UTF8 K p1 hc_lt_0 hc_gt_65535) hZ (hw _ (List.mem_of_getElem? (i := 13) rfl)) (hw _ (List.mem_of_getElem? (i := 2) rfl)) (by decide) (by decide)) q2a q2c (g := (mkF m 170 #[.val (.int p0), .val (.int p1), .val (.int p2), .val (.int (1 : Int32)), .val (.ref s_BMP), .val (.int p1), .val (.int (0 : Int32))] [(.int p1), (.ref s_BMP)])) rfl (by rw [hml]; rfl) (Steps.refl _) (argsL := [(.int p1)]) (rest := []) (lenOf pd1 rfl) rfl (by show 2 * 0 + _ ≤ _; exact Nat.le_of_eq rfl) (hb hby at_170) (fun _ _ => ⟨rfl, e1, (by decide : 0 + 0 ≤ _), (by decide : 0 + 0 ≤ _)⟩)
  dsimp only [Pt.U, Pt.locs, Pt.cells, Pt.slots] at X2 l2 y2 z2 st2 hQ2
  subst l2 y2 z2
  obtain ⟨rfl, N2q, e2⟩ := hQ2
  have N2 := Fr.app N0 N2q
  obtain ⟨fs, hr, hrun, hended, hW, hsame⟩ := X2.leave (v := some (.int (1 : Int32))) (fun h => by rw [Bd.returns] at h; cases h)
  refine ⟨_, _, pre0 _ ?_, hrun, hended, _, _, rfl, ?_, ⟨_, rfl⟩, hW, hsame.mono (by decide) (by decide)⟩
  · show Steps p.tables e below (s₁.setTop (mkF m 0 #[.val (.int p0), .val (.int p1), .val (.int p2), .unset, .unset, .unset, .unset] [])) _
    refine XS.iloadN X0.here hx rfl (hb hby at_0) rfl ?_
    show Steps p.tables e below (s₁.setTop (mkF m 1 #[.val (.int p0), .val (.int p1), .val (.int p2), .unset, .unset, .unset, .unset] [(.int p0)])) _
    refine X0.ldcInt hx hown (mvT hZ (hw _ (List.mem_of_getElem? (i := 0) rfl))) (g := (mkF m 1 #[.val (.int p0), .val (.int p1), .val (.int p2), .unset, .unset, .unset, .unset] [(.int p0)])) rfl (hb hby at_1) _ ?_
    show Steps p.tables e below (s₁.setTop (mkF m 3 #[.val (.int p0), .val (.int p1), .val (.int p2), .unset, .unset, .unset, .unset] [(.int (2147483647 : Int32)), (.int p0)])) _
    refine XS.iand X0.here hx rfl (hb hby at_3) rfl ?_
    show Steps p.tables e below (s₁.setTop (mkF m 4 #[.val (.int p0), .val (.int p1), .val (.int p2), .unset, .unset, .unset, .unset] [(.int (p0 &&& (2147483647 : Int32)))])) _
    refine XS.iconst X0.here hx rfl (hb hby at_4) ?_
    show Steps p.tables e below (s₁.setTop (mkF m 5 #[.val (.int p0), .val (.int p1), .val (.int p2), .unset, .unset, .unset, .unset] [(.int (3 : Int32)), (.int (p0 &&& (2147483647 : Int32)))])) _
    refine Jvm.RoadKit.iremM X0 hx rfl (hb hby at_5) rfl (by decide) ?_
    show Steps p.tables e below (s₁.setTop (mkF m 6 #[.val (.int p0), .val (.int p1), .val (.int p2), .unset, .unset, .unset, .unset] [(.int ((p0 &&& (2147483647 : Int32)) % (3 : Int32)))])) _
    rw [ha]
    show Steps p.tables e below (s₁.setTop (mkF m 6 #[.val (.int p0), .val (.int p1), .val (.int p2), .unset, .unset, .unset, .unset] [(.int (1 : Int32))])) _
    refine XS.istoreN X0.here hx rfl (hb hby at_6) rfl (l' := #[.val (.int p0), .val (.int p1), .val (.int p2), .val (.int (1 : Int32)), .unset, .unset, .unset]) rfl ?_
    show Steps p.tables e below (s₁.setTop (mkF m 7 #[.val (.int p0), .val (.int p1), .val (.int p2), .val (.int (1 : Int32)), .unset, .unset, .unset] [])) _
    refine XS.iloadN X0.here hx rfl (hb hby at_7) rfl ?_
    show Steps p.tables e below (s₁.setTop (mkF m 8 #[.val (.int p0), .val (.int p1), .val (.int p2), .val (.int (1 : Int32)), .unset, .unset, .unset] [(.int (1 : Int32))])) _
    refine XS.ifYes X0.here hx rfl (pc0 := 8) (pc' := 19) rfl (hb hby at_8) rfl (by decide +kernel) (by decide) (by decide) ?_
    show Steps p.tables e below (s₁.setTop (mkF m 19 #[.val (.int p0), .val (.int p1), .val (.int p2), .val (.int (1 : Int32)), .unset, .unset, .unset] [])) _
    refine XS.iloadN X0.here hx rfl (hb hby at_19) rfl ?_
    show Steps p.tables e below (s₁.setTop (mkF m 20 #[.val (.int p0), .val (.int p1), .val (.int p2), .val (.int (1 : Int32)), .unset, .unset, .unset] [(.int (1 : Int32))])) _
    refine XS.iconst X0.here hx rfl (hb hby at_20) ?_
    show Steps p.tables e below (s₁.setTop (mkF m 21 #[.val (.int p0), .val (.int p1), .val (.int p2), .val (.int (1 : Int32)), .unset, .unset, .unset] [(.int (1 : Int32)), (.int (1 : Int32))])) _
    refine XS.icmpNo X0.here hx rfl (hb hby at_21) rfl (by decide +kernel) ?_
    show Steps p.tables e below (s₁.setTop (mkF m 24 #[.val (.int p0), .val (.int p1), .val (.int p2), .val (.int (1 : Int32)), .unset, .unset, .unset] [])) _
    refine st1 _ ?_
    show Steps p.tables e below (T1.setTop (mkF m 27 #[.val (.int p0), .val (.int p1), .val (.int p2), .val (.int (1 : Int32)), .unset, .unset, .unset] [(.ref s_BMP)])) _
    refine XS.astore X1.here hx rfl (hb hby at_27) rfl rfl (l' := #[.val (.int p0), .val (.int p1), .val (.int p2), .val (.int (1 : Int32)), .val (.ref s_BMP), .unset, .unset]) rfl ?_
    show Steps p.tables e below (T1.setTop (mkF m 29 #[.val (.int p0), .val (.int p1), .val (.int p2), .val (.int (1 : Int32)), .val (.ref s_BMP), .unset, .unset] [])) _
    refine XS.goto X1.here hx rfl (pc0 := 29) (pc' := 37) rfl (hb hby at_29) (by decide) (by decide) ?_
    show Steps p.tables e below (T1.setTop (mkF m 37 #[.val (.int p0), .val (.int p1), .val (.int p2), .val (.int (1 : Int32)), .val (.ref s_BMP), .unset, .unset] [])) _
    refine XS.iloadN X1.here hx rfl (hb hby at_37) rfl ?_
    show Steps p.tables e below (T1.setTop (mkF m 38 #[.val (.int p0), .val (.int p1), .val (.int p2), .val (.int (1 : Int32)), .val (.ref s_BMP), .unset, .unset] [(.int p2)])) _
    refine XS.bipush X1.here hx rfl (hb hby at_38) ?_
    show Steps p.tables e below (T1.setTop (mkF m 40 #[.val (.int p0), .val (.int p1), .val (.int p2), .val (.int (1 : Int32)), .val (.ref s_BMP), .unset, .unset] [(.int (8 : Int32)), (.int p2)])) _
    refine XS.iand X1.here hx rfl (hb hby at_40) rfl ?_
    show Steps p.tables e below (T1.setTop (mkF m 41 #[.val (.int p0), .val (.int p1), .val (.int p2), .val (.int (1 : Int32)), .val (.ref s_BMP), .unset, .unset] [(.int (p2 &&& (8 : Int32)))])) _
    rw [hb1]
    show Steps p.tables e below (T1.setTop (mkF m 41 #[.val (.int p0), .val (.int p1), .val (.int p2), .val (.int (1 : Int32)), .val (.ref s_BMP), .unset, .unset] [(.int (8 : Int32))])) _
    refine XS.ifNo X1.here hx rfl (hb hby at_41) rfl (by decide +kernel) ?_
    show Steps p.tables e below (T1.setTop (mkF m 44 #[.val (.int p0), .val (.int p1), .val (.int p2), .val (.int (1 : Int32)), .val (.ref s_BMP), .unset, .unset] [])) _
    refine XS.iloadN X1.here hx rfl (hb hby at_44) rfl ?_
    show Steps p.tables e below (T1.setTop (mkF m 45 #[.val (.int p0), .val (.int p1), .val (.int p2), .val (.int (1 : Int32)), .val (.ref s_BMP), .unset, .unset] [(.int p1)])) _
    refine XS.istore X1.here hx rfl (hb hby at_45) rfl (l' := #[.val (.int p0), .val (.int p1), .val (.int p2), .val (.int (1 : Int32)), .val (.ref s_BMP), .val (.int p1), .unset]) rfl ?_
    show Steps p.tables e below (T1.setTop (mkF m 47 #[.val (.int p0), .val (.int p1), .val (.int p2), .val (.int (1 : Int32)), .val (.ref s_BMP), .val (.int p1), .unset] [])) _
    refine XS.goto X1.here hx rfl (pc0 := 47) (pc' := 66) rfl (hb hby at_47) (by decide) (by decide) ?_
    show Steps p.tables e below (T1.setTop (mkF m 66 #[.val (.int p0), .val (.int p1), .val (.int p2), .val (.int (1 : Int32)), .val (.ref s_BMP), .val (.int p1), .unset] [])) _
    refine XS.iloadN X1.here hx rfl (hb hby at_66) rfl ?_
    show Steps p.tables e below (T1.setTop (mkF m 67 #[.val (.int p0), .val (.int p1), .val (.int p2), .val (.int (1 : Int32)), .val (.ref s_BMP), .val (.int p1), .unset] [(.int (1 : Int32))])) _
    refine XS.ifYes X1.here hx rfl (pc0 := 67) (pc' := 92) rfl (hb hby at_67) rfl (by decide +kernel) (by decide) (by decide) ?_
    show Steps p.tables e below (T1.setTop (mkF m 92 #[.val (.int p0), .val (.int p1), .val (.int p2), .val (.int (1 : Int32)), .val (.ref s_BMP), .val (.int p1), .unset] [])) _
    refine XS.iloadN X1.here hx rfl (hb hby at_92) rfl ?_
    show Steps p.tables e below (T1.setTop (mkF m 93 #[.val (.int p0), .val (.int p1), .val (.int p2), .val (.int (1 : Int32)), .val (.ref s_BMP), .val (.int p1), .unset] [(.int (1 : Int32))])) _
    refine XS.iconst X1.here hx rfl (hb hby at_93) ?_
    show Steps p.tables e below (T1.setTop (mkF m 94 #[.val (.int p0), .val (.int p1), .val (.int p2), .val (.int (1 : Int32)), .val (.ref s_BMP), .val (.int p1), .unset] [(.int (1 : Int32)), (.int (1 : Int32))])) _
    refine XS.icmpNo X1.here hx rfl (hb hby at_94) rfl (by decide +kernel) ?_
    show Steps p.tables e below (T1.setTop (mkF m 97 #[.val (.int p0), .val (.int p1), .val (.int p2), .val (.int (1 : Int32)), .val (.ref s_BMP), .val (.int p1), .unset] [])) _
    refine XS.iload X1.here hx rfl (hb hby at_97) rfl ?_
    show Steps p.tables e below (T1.setTop (mkF m 99 #[.val (.int p0), .val (.int p1), .val (.int p2), .val (.int (1 : Int32)), .val (.ref s_BMP), .val (.int p1), .unset] [(.int p1)])) _
    refine XS.ifNo X1.here hx rfl (hb hby at_99) rfl hc_lt_0 ?_
    show Steps p.tables e below (T1.setTop (mkF m 102 #[.val (.int p0), .val (.int p1), .val (.int p2), .val (.int (1 : Int32)), .val (.ref s_BMP), .val (.int p1), .unset] [])) _
    refine XS.iload X1.here hx rfl (hb hby at_102) rfl ?_
    show Steps p.tables e below (T1.setTop (mkF m 104 #[.val (.int p0), .val (.int p1), .val (.int p2), .val (.int (1 : Int32)), .val (.ref s_BMP), .val (.int p1), .unset] [(.int p1)])) _
    refine X1.ldcInt hx hown (mvT hZ (hw _ (List.mem_of_getElem? (i := 8) rfl))) (g := (mkF m 104 #[.val (.int p0), .val (.int p1), .val (.int p2), .val (.int (1 : Int32)), .val (.ref s_BMP), .val (.int p1), .unset] [(.int p1)])) rfl (hb hby at_104) _ ?_
    show Steps p.tables e below (T1.setTop (mkF m 106 #[.val (.int p0), .val (.int p1), .val (.int p2), .val (.int (1 : Int32)), .val (.ref s_BMP), .val (.int p1), .unset] [(.int (55296 : Int32)), (.int p1)])) _
    refine XS.icmpNo X1.here hx rfl (hb hby at_106) rfl hc_lt_55296 ?_
    show Steps p.tables e below (T1.setTop (mkF m 109 #[.val (.int p0), .val (.int p1), .val (.int p2), .val (.int (1 : Int32)), .val (.ref s_BMP), .val (.int p1), .unset] [])) _
    refine XS.iload X1.here hx rfl (hb hby at_109) rfl ?_
    show Steps p.tables e below (T1.setTop (mkF m 111 #[.val (.int p0), .val (.int p1), .val (.int p2), .val (.int (1 : Int32)), .val (.ref s_BMP), .val (.int p1), .unset] [(.int p1)])) _
    refine X1.ldcInt hx hown (mvT hZ (hw _ (List.mem_of_getElem? (i := 19) rfl))) (g := (mkF m 111 #[.val (.int p0), .val (.int p1), .val (.int p2), .val (.int (1 : Int32)), .val (.ref s_BMP), .val (.int p1), .unset] [(.int p1)])) rfl (hb hby at_111) _ ?_
    show Steps p.tables e below (T1.setTop (mkF m 113 #[.val (.int p0), .val (.int p1), .val (.int p2), .val (.int (1 : Int32)), .val (.ref s_BMP), .val (.int p1), .unset] [(.int (57344 : Int32)), (.int p1)])) _
    refine XS.icmpNo X1.here hx rfl (hb hby at_113) rfl hc_lt_57344 ?_
    show Steps p.tables e below (T1.setTop (mkF m 116 #[.val (.int p0), .val (.int p1), .val (.int p2), .val (.int (1 : Int32)), .val (.ref s_BMP), .val (.int p1), .unset] [])) _
    refine XS.iload X1.here hx rfl (hb hby at_116) rfl ?_
    show Steps p.tables e below (T1.setTop (mkF m 118 #[.val (.int p0), .val (.int p1), .val (.int p2), .val (.int (1 : Int32)), .val (.ref s_BMP), .val (.int p1), .unset] [(.int p1)])) _
    refine X1.ldcInt hx hown (mvT hZ (hw _ (List.mem_of_getElem? (i := 20) rfl))) (g := (mkF m 118 #[.val (.int p0), .val (.int p1), .val (.int p2), .val (.int (1 : Int32)), .val (.ref s_BMP), .val (.int p1), .unset] [(.int p1)])) rfl (hb hby at_118) _ ?_
    show Steps p.tables e below (T1.setTop (mkF m 120 #[.val (.int p0), .val (.int p1), .val (.int p2), .val (.int (1 : Int32)), .val (.ref s_BMP), .val (.int p1), .unset] [(.int (65535 : Int32)), (.int p1)])) _
    refine XS.icmpYes X1.here hx rfl (pc0 := 120) (pc' := 127) rfl (hb hby at_120) rfl hc_gt_65535 (by decide) (by decide) ?_
    show Steps p.tables e below (T1.setTop (mkF m 127 #[.val (.int p0), .val (.int p1), .val (.int p2), .val (.int (1 : Int32)), .val (.ref s_BMP), .val (.int p1), .unset] [])) _
    refine XS.iconst X1.here hx rfl (hb hby at_127) ?_
    show Steps p.tables e below (T1.setTop (mkF m 128 #[.val (.int p0), .val (.int p1), .val (.int p2), .val (.int (1 : Int32)), .val (.ref s_BMP), .val (.int p1), .unset] [(.int (0 : Int32))])) _
    refine XS.istore X1.here hx rfl (hb hby at_128) rfl (l' := #[.val (.int p0), .val (.int p1), .val (.int p2), .val (.int (1 : Int32)), .val (.ref s_BMP), .val (.int p1), .val (.int (0 : Int32))]) rfl ?_
    show Steps p.tables e below (T1.setTop (mkF m 130 #[.val (.int p0), .val (.int p1), .val (.int p2), .val (.int (1 : Int32)), .val (.ref s_BMP), .val (.int p1), .val (.int (0 : Int32))] [])) _
    refine XS.goto X1.here hx rfl (pc0 := 130) (pc' := 166) rfl (hb hby at_130) (by decide) (by decide) ?_
    show Steps p.tables e below (T1.setTop (mkF m 166 #[.val (.int p0), .val (.int p1), .val (.int p2), .val (.int (1 : Int32)), .val (.ref s_BMP), .val (.int p1), .val (.int (0 : Int32))] [])) _
    refine XS.aload X1.here hx rfl (hb hby at_166) rfl rfl ?_
    show Steps p.tables e below (T1.setTop (mkF m 168 #[.val (.int p0), .val (.int p1), .val (.int p2), .val (.int (1 : Int32)), .val (.ref s_BMP), .val (.int p1), .val (.int (0 : Int32))] [(.ref s_BMP)])) _
    refine XS.iload X1.here hx rfl (hb hby at_168) rfl ?_
    show Steps p.tables e below (T1.setTop (mkF m 170 #[.val (.int p0), .val (.int p1), .val (.int p2), .val (.int (1 : Int32)), .val (.ref s_BMP), .val (.int p1), .val (.int (0 : Int32))] [(.int p1), (.ref s_BMP)])) _
    refine st2.trans ?_
    show Steps p.tables e below (T2.setTop (mkF m 173 #[.val (.int p0), .val (.int p1), .val (.int p2), .val (.int (1 : Int32)), .val (.ref s_BMP), .val (.int p1), .val (.int (0 : Int32))] [(.int (0 : Int32))])) _
    refine XS.iload X2.here hx rfl (hb hby at_173) rfl ?_
    show Steps p.tables e below (T2.setTop (mkF m 175 #[.val (.int p0), .val (.int p1), .val (.int p2), .val (.int (1 : Int32)), .val (.ref s_BMP), .val (.int p1), .val (.int (0 : Int32))] [(.int (0 : Int32)), (.int (0 : Int32))])) _
    refine XS.icmpNo X2.here hx rfl (hb hby at_175) rfl (by decide +kernel) ?_
    show Steps p.tables e below (T2.setTop (mkF m 178 #[.val (.int p0), .val (.int p1), .val (.int p2), .val (.int (1 : Int32)), .val (.ref s_BMP), .val (.int p1), .val (.int (0 : Int32))] [])) _
    refine XS.iconst X2.here hx rfl (hb hby at_178) ?_
    show Steps p.tables e below (T2.setTop (mkF m 179 #[.val (.int p0), .val (.int p1), .val (.int p2), .val (.int (1 : Int32)), .val (.ref s_BMP), .val (.int p1), .val (.int (0 : Int32))] [(.int (1 : Int32))])) _
    refine XS.goto X2.here hx rfl (pc0 := 179) (pc' := 183) rfl (hb hby at_179) (by decide) (by decide) ?_
    show Steps p.tables e below (T2.setTop (mkF m 183 #[.val (.int p0), .val (.int p1), .val (.int p2), .val (.int (1 : Int32)), .val (.ref s_BMP), .val (.int p1), .val (.int (0 : Int32))] [(.int (1 : Int32))])) _
    exact retN X2 hx (t := .boolean) Bd.returns (by simp) (hb hby at_183) hr
  · exact ⟨rfl, N2, e2⟩
set_option maxRecDepth 65536 in
set_option maxHeartbeats 40000000 in
theorem r40 (l : Launch) (Z : State) (a0 : Array Value) (hw : ∀ d ∈ tables_1, d.before a0 Z = true) (ws : List Jvm.Cond) (h0 : Heap) (n0 : Nat) (s_IA5 : Addr) (s_BMP : Addr) (s_UTF8 : Addr) (K : Ctx Z h0 s_IA5 s_BMP s_UTF8) (p1 : Int32) (p2 : Int32) (hc_lt_0 : ifCond.holds .lt ((own_bnd (p2 &&& (7 : Int32))) + ((p1 &&& (7 : Int32)) - (3 : Int32))) = true) :
    MetFree l (⟨"com/example/plainwire/plainwire/definitions/Repertoire", "holds", "(I)Z"⟩ : MethodName) (head1 (Jvm.Cond.code (⟨"com/example/plainwire/plainwire/definitions/Repertoire", "holds", "(I)Z"⟩ : MethodName) prog_37_method_5_code 2 (some .boolean) :: ws) ({ frames := 0, cells := 0, slots := 0, locals := 0 } : Room)) (fun a U => a = #[(.ref s_UTF8), (.int ((own_bnd (p2 &&& (7 : Int32))) + ((p1 &&& (7 : Int32)) - (3 : Int32))))] ∧ Z.Warmed39 U.vm ∧ U.heap = h0) (fun _ _ _ _ _ => True) (fun _ U o U' => ∃ v L, o = .returned v ∧ QV (.int (0 : Int32)) h0 n0 v U'.heap L ∧ FrameEnd U o U' L ({ frames := 0, cells := 0, slots := 0, locals := 0 } : Room).cells ({ frames := 0, cells := 0, slots := 0, locals := 0 } : Room).slots) := by
  obtain ⟨S_IA5, E_IA5, F_IA5_lastCodePoint, S_BMP, E_BMP, F_BMP_lastCodePoint, S_UTF8, E_UTF8, F_UTF8_lastCodePoint⟩ := id K
  refine MetFree.of_bodySF (plainFor_of_name pn1) hisR ?_
  intro p e s m args below meth c s₁ Bd hml0 hP hK
  obtain ⟨rfl, hZ, hh⟩ := hP
  have hx := Bd.exec
  have hby := Bd.bytes
  have hml : c.maxLocals = 2 := hml0
  have hown : s.vm.findClass "com/example/plainwire/plainwire/definitions/Repertoire" = some m.cls := findClass_of_methodNamed Bd.named
  have X0 : Stand p l e ({ frames := 0, cells := 0, slots := 0, locals := 0 } : Room) s m #[(.ref s_UTF8), (.int ((own_bnd (p2 &&& (7 : Int32))) + ((p1 &&& (7 : Int32)) - (3 : Int32))))] below meth c s₁ [] 0 0 := Stand.of_body Bd
  have e0 : s₁.heap = h0 := by rw [← hh, Bd.state]; rfl
  have N0 := Fr.nil n0
  have pre0 : ∀ t, Steps p.tables e below (s₁.setTop (mkF m 0 #[.val (.ref s_UTF8), .val (.int ((own_bnd (p2 &&& (7 : Int32))) + ((p1 &&& (7 : Int32)) - (3 : Int32))))] [])) t → Steps p.tables e below (s₁.setTop (entryFrame m #[(.ref s_UTF8), (.int ((own_bnd (p2 &&& (7 : Int32))) + ((p1 &&& (7 : Int32)) - (3 : Int32))))] 2)) t := fun t k => castTop (by first | (simp [entryFrame, mkF, argsToLocals, Value.category]; done) | rfl) k
  obtain ⟨fs, hr, hrun, hended, hW, hsame⟩ := X0.leave (v := some (.int (0 : Int32))) (fun h => by rw [Bd.returns] at h; cases h)
  refine ⟨_, _, pre0 _ ?_, hrun, hended, _, _, rfl, ?_, ⟨_, rfl⟩, hW, hsame.mono (by decide) (by decide)⟩
  · show Steps p.tables e below (s₁.setTop (mkF m 0 #[.val (.ref s_UTF8), .val (.int ((own_bnd (p2 &&& (7 : Int32))) + ((p1 &&& (7 : Int32)) - (3 : Int32))))] [])) _
    refine XS.iloadN X0.here hx rfl (hb hby d1_0) rfl ?_
    show Steps p.tables e below (s₁.setTop (mkF m 1 #[.val (.ref s_UTF8), .val (.int ((own_bnd (p2 &&& (7 : Int32))) + ((p1 &&& (7 : Int32)) - (3 : Int32))))] [(.int ((own_bnd (p2 &&& (7 : Int32))) + ((p1 &&& (7 : Int32)) - (3 : Int32))))])) _
    refine XS.ifYes X0.here hx rfl (pc0 := 1) (pc' := 28) rfl (hb hby d1_1) rfl hc_lt_0 (by decide) (by decide) ?_
    show Steps p.tables e below (s₁.setTop (mkF m 28 #[.val (.ref s_UTF8), .val (.int ((own_bnd (p2 &&& (7 : Int32))) + ((p1 &&& (7 : Int32)) - (3 : Int32))))] [])) _
    refine XS.iconst X0.here hx rfl (hb hby d1_28) ?_
    show Steps p.tables e below (s₁.setTop (mkF m 29 #[.val (.ref s_UTF8), .val (.int ((own_bnd (p2 &&& (7 : Int32))) + ((p1 &&& (7 : Int32)) - (3 : Int32))))] [(.int (0 : Int32))])) _
    exact retN X0 hx (t := .boolean) Bd.returns (by simp) (hb hby d1_29) hr
  · exact ⟨rfl, N0, e0⟩
set_option maxRecDepth 65536 in
set_option maxHeartbeats 40000000 in
theorem law_k2_0_0 (l : Launch) (Z : State) (a0 : Array Value) (hw : ∀ d ∈ tables_1, d.before a0 Z = true) (ws : List Jvm.Cond) (h0 : Heap) (n0 : Nat) (s_IA5 : Addr) (s_BMP : Addr) (s_UTF8 : Addr) (K : Ctx Z h0 s_IA5 s_BMP s_UTF8) (p0 : Int32) (p1 : Int32) (p2 : Int32) (ha : ((p0 &&& (2147483647 : Int32)) % (3 : Int32)) = (2 : Int32)) (hb1 : (p2 &&& (8 : Int32)) = (0 : Int32)) (hc_lt_0 : ifCond.holds .lt ((own_bnd (p2 &&& (7 : Int32))) + ((p1 &&& (7 : Int32)) - (3 : Int32))) = true) (hc_lt_57344 : if_icmp.holds .lt ((own_bnd (p2 &&& (7 : Int32))) + ((p1 &&& (7 : Int32)) - (3 : Int32))) (57344 : Int32) = true) :
    MetFree l x (head1 (Jvm.Cond.code x code maxLocals ret :: ws) room_1) (fun a U => a = #[(.int p0), (.int p1), (.int p2)] ∧ Z.Warmed39 U.vm ∧ U.heap = h0) (fun _ _ _ _ _ => True) (fun _ U o U' => ∃ v L, o = .returned v ∧ QV (.int (1 : Int32)) h0 n0 v U'.heap L ∧ FrameEnd U o U' L room_1.cells room_1.slots) := by
  obtain ⟨S_IA5, E_IA5, F_IA5_lastCodePoint, S_BMP, E_BMP, F_BMP_lastCodePoint, S_UTF8, E_UTF8, F_UTF8_lastCodePoint⟩ := id K
  refine MetFree.of_bodySF (plainFor_of_name pn2) hisR ?_
  intro p e s m args below meth c s₁ Bd hml0 hP hK
  obtain ⟨rfl, hZ, hh⟩ := hP
  have hx := Bd.exec
  have hby := Bd.bytes
  have hml : c.maxLocals = 7 := hml0
  have hown : s.vm.findClass "com/example/plainwire/plainwire/definitions/RepertoireHoldsPinLaw" = some m.cls := findClass_of_methodNamed Bd.named
  have X0 : Stand p l e room_1 s m #[(.int p0), (.int p1), (.int p2)] below meth c s₁ [] 0 0 := Stand.of_body Bd
  have e0 : s₁.heap = h0 := by rw [← hh, Bd.state]; rfl
  have N0 := Fr.nil n0
  have pre0 : ∀ t, Steps p.tables e below (s₁.setTop (mkF m 0 #[.val (.int p0), .val (.int p1), .val (.int p2), .unset, .unset, .unset, .unset] [])) t → Steps p.tables e below (s₁.setTop (entryFrame m #[(.int p0), (.int p1), (.int p2)] maxLocals)) t := fun t k => castTop (by first | (simp [entryFrame, mkF, argsToLocals, Value.category, maxLocals]; done) | rfl) k
  obtain ⟨T1, X1, e1, st1⟩ := getS X0 hx hZ hown (host := "") (hw _ (List.mem_of_getElem? (i := 23) rfl)) Via.refl e0 S_UTF8 (g := (mkF m 32 #[.val (.int p0), .val (.int p1), .val (.int p2), .val (.int (2 : Int32)), .unset, .unset, .unset] [])) rfl (hb hby at_32)
  obtain ⟨_, _, ⟨T2, L2, k2, n2⟩, -, X2, ⟨Lc2, hQ2, l2, y2, z2⟩, st2⟩ := Jvm.LawKit.callS X1 hx (y := (⟨"com/example/plainwire/plainwire/definitions/RepertoireHoldsPinLaw", "boundary", "(I)I"⟩ : MethodName)) hown (mvT hZ (hw _ (List.mem_of_getElem? (i := 4) rfl))) (mvT hZ (hw _ (List.mem_of_getElem? (i := 5) rfl))) (mvT hZ (hw _ (List.mem_of_getElem? (i := 6) rfl))) (mvT hZ (hw _ (List.mem_of_getElem? (i := 7) rfl))) (by decide) (backOf (W := 0) (own_bndK l Z a0 hw [] h0 n0 s_IA5 s_BMP s_UTF8 K (p2 &&& (7 : Int32)) (own_and8 p2)) hZ (hw _ (List.mem_of_getElem? (i := 7) rfl)) (hw _ (List.mem_of_getElem? (i := 6) rfl)) (by decide) (by decide)) (g := (mkF m 54 #[.val (.int p0), .val (.int p1), .val (.int p2), .val (.int (2 : Int32)), .val (.ref s_UTF8), .unset, .unset] [(.int (p2 &&& (7 : Int32)))])) rfl (by rw [hml]; rfl) (argsL := [(.int (p2 &&& (7 : Int32)))]) (rest := []) (lenOf pd0 rfl) rfl (by show 2 * 0 + _ ≤ _; exact Nat.le_of_eq rfl) (hb hby at_54) (fun _ _ => ⟨rfl, e1, (by decide : 0 + 0 ≤ _), (by decide : 0 + 0 ≤ _)⟩)
  dsimp only [Pt.U, Pt.locs, Pt.cells, Pt.slots] at X2 l2 y2 z2 st2 hQ2
  subst l2 y2 z2
  obtain ⟨rfl, N2q, e2⟩ := hQ2
  have N2 := Fr.app N0 N2q
  obtain ⟨cq3, kq3, q3a, q3b, q3c⟩ := isOf hZ e2 E_UTF8
  obtain ⟨_, _, ⟨T3, L3, k3, n3⟩, -, X3, ⟨Lc3, hQ3, l3, y3, z3⟩, st3⟩ := X2.virtualBack hx (y := (⟨"com/example/plainwire/plainwire/definitions/Repertoire", "holds", "(I)Z"⟩ : MethodName)) (z := (⟨"com/example/plainwire/plainwire/definitions/Repertoire", "holds", "(I)Z"⟩ : MethodName)) hown (mvT hZ (hw _ (List.mem_of_getElem? (i := 9) rfl))) (mvT hZ (hw _ (List.mem_of_getElem? (i := 10) rfl))) (notFace_of_selects (args := #[]) (mvT hZ (hw _ (List.mem_of_getElem? (i := 12) rfl)))) (mvT hZ (hw _ (List.mem_of_getElem? (i := 12) rfl))) (mvT hZ (hw _ (List.mem_of_getElem? (i := 11) rfl))) (by decide) (backOf (W := 0) (r40 l Z a0 hw [] h0 n0 s_IA5 s_BMP s_UTF8 K p1 p2 hc_lt_0) hZ (hw _ (List.mem_of_getElem? (i := 13) rfl)) (hw _ (List.mem_of_getElem? (i := 2) rfl)) (by decide) (by decide)) q3a q3c (g := (mkF m 170 #[.val (.int p0), .val (.int p1), .val (.int p2), .val (.int (2 : Int32)), .val (.ref s_UTF8), .val (.int ((own_bnd (p2 &&& (7 : Int32))) + ((p1 &&& (7 : Int32)) - (3 : Int32)))), .val (.int (0 : Int32))] [(.int ((own_bnd (p2 &&& (7 : Int32))) + ((p1 &&& (7 : Int32)) - (3 : Int32)))), (.ref s_UTF8)])) rfl (by rw [hml]; rfl) (Steps.refl _) (argsL := [(.int ((own_bnd (p2 &&& (7 : Int32))) + ((p1 &&& (7 : Int32)) - (3 : Int32))))]) (rest := []) (lenOf pd1 rfl) rfl (by show 2 * 0 + _ ≤ _; exact Nat.le_of_eq rfl) (hb hby at_170) (fun _ _ => ⟨rfl, e2, (by decide : 0 + 0 ≤ _), (by decide : 0 + 0 ≤ _)⟩)
  dsimp only [Pt.U, Pt.locs, Pt.cells, Pt.slots] at X3 l3 y3 z3 st3 hQ3
  subst l3 y3 z3
  obtain ⟨rfl, N3q, e3⟩ := hQ3
  have N3 := Fr.app N2 N3q
  obtain ⟨fs, hr, hrun, hended, hW, hsame⟩ := X3.leave (v := some (.int (1 : Int32))) (fun h => by rw [Bd.returns] at h; cases h)
  refine ⟨_, _, pre0 _ ?_, hrun, hended, _, _, rfl, ?_, ⟨_, rfl⟩, hW, hsame.mono (by decide) (by decide)⟩
  · show Steps p.tables e below (s₁.setTop (mkF m 0 #[.val (.int p0), .val (.int p1), .val (.int p2), .unset, .unset, .unset, .unset] [])) _
    refine XS.iloadN X0.here hx rfl (hb hby at_0) rfl ?_
    show Steps p.tables e below (s₁.setTop (mkF m 1 #[.val (.int p0), .val (.int p1), .val (.int p2), .unset, .unset, .unset, .unset] [(.int p0)])) _
    refine X0.ldcInt hx hown (mvT hZ (hw _ (List.mem_of_getElem? (i := 0) rfl))) (g := (mkF m 1 #[.val (.int p0), .val (.int p1), .val (.int p2), .unset, .unset, .unset, .unset] [(.int p0)])) rfl (hb hby at_1) _ ?_
    show Steps p.tables e below (s₁.setTop (mkF m 3 #[.val (.int p0), .val (.int p1), .val (.int p2), .unset, .unset, .unset, .unset] [(.int (2147483647 : Int32)), (.int p0)])) _
    refine XS.iand X0.here hx rfl (hb hby at_3) rfl ?_
    show Steps p.tables e below (s₁.setTop (mkF m 4 #[.val (.int p0), .val (.int p1), .val (.int p2), .unset, .unset, .unset, .unset] [(.int (p0 &&& (2147483647 : Int32)))])) _
    refine XS.iconst X0.here hx rfl (hb hby at_4) ?_
    show Steps p.tables e below (s₁.setTop (mkF m 5 #[.val (.int p0), .val (.int p1), .val (.int p2), .unset, .unset, .unset, .unset] [(.int (3 : Int32)), (.int (p0 &&& (2147483647 : Int32)))])) _
    refine Jvm.RoadKit.iremM X0 hx rfl (hb hby at_5) rfl (by decide) ?_
    show Steps p.tables e below (s₁.setTop (mkF m 6 #[.val (.int p0), .val (.int p1), .val (.int p2), .unset, .unset, .unset, .unset] [(.int ((p0 &&& (2147483647 : Int32)) % (3 : Int32)))])) _
    rw [ha]
    show Steps p.tables e below (s₁.setTop (mkF m 6 #[.val (.int p0), .val (.int p1), .val (.int p2), .unset, .unset, .unset, .unset] [(.int (2 : Int32))])) _
    refine XS.istoreN X0.here hx rfl (hb hby at_6) rfl (l' := #[.val (.int p0), .val (.int p1), .val (.int p2), .val (.int (2 : Int32)), .unset, .unset, .unset]) rfl ?_
    show Steps p.tables e below (s₁.setTop (mkF m 7 #[.val (.int p0), .val (.int p1), .val (.int p2), .val (.int (2 : Int32)), .unset, .unset, .unset] [])) _
    refine XS.iloadN X0.here hx rfl (hb hby at_7) rfl ?_
    show Steps p.tables e below (s₁.setTop (mkF m 8 #[.val (.int p0), .val (.int p1), .val (.int p2), .val (.int (2 : Int32)), .unset, .unset, .unset] [(.int (2 : Int32))])) _
    refine XS.ifYes X0.here hx rfl (pc0 := 8) (pc' := 19) rfl (hb hby at_8) rfl (by decide +kernel) (by decide) (by decide) ?_
    show Steps p.tables e below (s₁.setTop (mkF m 19 #[.val (.int p0), .val (.int p1), .val (.int p2), .val (.int (2 : Int32)), .unset, .unset, .unset] [])) _
    refine XS.iloadN X0.here hx rfl (hb hby at_19) rfl ?_
    show Steps p.tables e below (s₁.setTop (mkF m 20 #[.val (.int p0), .val (.int p1), .val (.int p2), .val (.int (2 : Int32)), .unset, .unset, .unset] [(.int (2 : Int32))])) _
    refine XS.iconst X0.here hx rfl (hb hby at_20) ?_
    show Steps p.tables e below (s₁.setTop (mkF m 21 #[.val (.int p0), .val (.int p1), .val (.int p2), .val (.int (2 : Int32)), .unset, .unset, .unset] [(.int (1 : Int32)), (.int (2 : Int32))])) _
    refine XS.icmpYes X0.here hx rfl (pc0 := 21) (pc' := 32) rfl (hb hby at_21) rfl (by decide +kernel) (by decide) (by decide) ?_
    show Steps p.tables e below (s₁.setTop (mkF m 32 #[.val (.int p0), .val (.int p1), .val (.int p2), .val (.int (2 : Int32)), .unset, .unset, .unset] [])) _
    refine st1 _ ?_
    show Steps p.tables e below (T1.setTop (mkF m 35 #[.val (.int p0), .val (.int p1), .val (.int p2), .val (.int (2 : Int32)), .unset, .unset, .unset] [(.ref s_UTF8)])) _
    refine XS.astore X1.here hx rfl (hb hby at_35) rfl rfl (l' := #[.val (.int p0), .val (.int p1), .val (.int p2), .val (.int (2 : Int32)), .val (.ref s_UTF8), .unset, .unset]) rfl ?_
    show Steps p.tables e below (T1.setTop (mkF m 37 #[.val (.int p0), .val (.int p1), .val (.int p2), .val (.int (2 : Int32)), .val (.ref s_UTF8), .unset, .unset] [])) _
    refine XS.iloadN X1.here hx rfl (hb hby at_37) rfl ?_
    show Steps p.tables e below (T1.setTop (mkF m 38 #[.val (.int p0), .val (.int p1), .val (.int p2), .val (.int (2 : Int32)), .val (.ref s_UTF8), .unset, .unset] [(.int p2)])) _
    refine XS.bipush X1.here hx rfl (hb hby at_38) ?_
    show Steps p.tables e below (T1.setTop (mkF m 40 #[.val (.int p0), .val (.int p1), .val (.int p2), .val (.int (2 : Int32)), .val (.ref s_UTF8), .unset, .unset] [(.int (8 : Int32)), (.int p2)])) _
    refine XS.iand X1.here hx rfl (hb hby at_40) rfl ?_
    show Steps p.tables e below (T1.setTop (mkF m 41 #[.val (.int p0), .val (.int p1), .val (.int p2), .val (.int (2 : Int32)), .val (.ref s_UTF8), .unset, .unset] [(.int (p2 &&& (8 : Int32)))])) _
    rw [hb1]
    show Steps p.tables e below (T1.setTop (mkF m 41 #[.val (.int p0), .val (.int p1), .val (.int p2), .val (.int (2 : Int32)), .val (.ref s_UTF8), .unset, .unset] [(.int (0 : Int32))])) _
    refine XS.ifYes X1.here hx rfl (pc0 := 41) (pc' := 50) rfl (hb hby at_41) rfl (by decide +kernel) (by decide) (by decide) ?_
    show Steps p.tables e below (T1.setTop (mkF m 50 #[.val (.int p0), .val (.int p1), .val (.int p2), .val (.int (2 : Int32)), .val (.ref s_UTF8), .unset, .unset] [])) _
    refine XS.iloadN X1.here hx rfl (hb hby at_50) rfl ?_
    show Steps p.tables e below (T1.setTop (mkF m 51 #[.val (.int p0), .val (.int p1), .val (.int p2), .val (.int (2 : Int32)), .val (.ref s_UTF8), .unset, .unset] [(.int p2)])) _
    refine XS.bipush X1.here hx rfl (hb hby at_51) ?_
    show Steps p.tables e below (T1.setTop (mkF m 53 #[.val (.int p0), .val (.int p1), .val (.int p2), .val (.int (2 : Int32)), .val (.ref s_UTF8), .unset, .unset] [(.int (7 : Int32)), (.int p2)])) _
    refine XS.iand X1.here hx rfl (hb hby at_53) rfl ?_
    show Steps p.tables e below (T1.setTop (mkF m 54 #[.val (.int p0), .val (.int p1), .val (.int p2), .val (.int (2 : Int32)), .val (.ref s_UTF8), .unset, .unset] [(.int (p2 &&& (7 : Int32)))])) _
    refine st2 _ ?_
    show Steps p.tables e below (T2.setTop (mkF m 57 #[.val (.int p0), .val (.int p1), .val (.int p2), .val (.int (2 : Int32)), .val (.ref s_UTF8), .unset, .unset] [(.int (own_bnd (p2 &&& (7 : Int32))))])) _
    refine XS.iloadN X2.here hx rfl (hb hby at_57) rfl ?_
    show Steps p.tables e below (T2.setTop (mkF m 58 #[.val (.int p0), .val (.int p1), .val (.int p2), .val (.int (2 : Int32)), .val (.ref s_UTF8), .unset, .unset] [(.int p1), (.int (own_bnd (p2 &&& (7 : Int32))))])) _
    refine XS.bipush X2.here hx rfl (hb hby at_58) ?_
    show Steps p.tables e below (T2.setTop (mkF m 60 #[.val (.int p0), .val (.int p1), .val (.int p2), .val (.int (2 : Int32)), .val (.ref s_UTF8), .unset, .unset] [(.int (7 : Int32)), (.int p1), (.int (own_bnd (p2 &&& (7 : Int32))))])) _
    refine XS.iand X2.here hx rfl (hb hby at_60) rfl ?_
    show Steps p.tables e below (T2.setTop (mkF m 61 #[.val (.int p0), .val (.int p1), .val (.int p2), .val (.int (2 : Int32)), .val (.ref s_UTF8), .unset, .unset] [(.int (p1 &&& (7 : Int32))), (.int (own_bnd (p2 &&& (7 : Int32))))])) _
    refine XS.iconst X2.here hx rfl (hb hby at_61) ?_
    show Steps p.tables e below (T2.setTop (mkF m 62 #[.val (.int p0), .val (.int p1), .val (.int p2), .val (.int (2 : Int32)), .val (.ref s_UTF8), .unset, .unset] [(.int (3 : Int32)), (.int (p1 &&& (7 : Int32))), (.int (own_bnd (p2 &&& (7 : Int32))))])) _
    refine XS.isub X2.here hx rfl (hb hby at_62) rfl ?_
    show Steps p.tables e below (T2.setTop (mkF m 63 #[.val (.int p0), .val (.int p1), .val (.int p2), .val (.int (2 : Int32)), .val (.ref s_UTF8), .unset, .unset] [(.int ((p1 &&& (7 : Int32)) - (3 : Int32))), (.int (own_bnd (p2 &&& (7 : Int32))))])) _
    refine XS.iadd X2.here hx rfl (hb hby at_63) rfl ?_
    show Steps p.tables e below (T2.setTop (mkF m 64 #[.val (.int p0), .val (.int p1), .val (.int p2), .val (.int (2 : Int32)), .val (.ref s_UTF8), .unset, .unset] [(.int ((own_bnd (p2 &&& (7 : Int32))) + ((p1 &&& (7 : Int32)) - (3 : Int32))))])) _
    refine XS.istore X2.here hx rfl (hb hby at_64) rfl (l' := #[.val (.int p0), .val (.int p1), .val (.int p2), .val (.int (2 : Int32)), .val (.ref s_UTF8), .val (.int ((own_bnd (p2 &&& (7 : Int32))) + ((p1 &&& (7 : Int32)) - (3 : Int32)))), .unset]) rfl ?_
    show Steps p.tables e below (T2.setTop (mkF m 66 #[.val (.int p0), .val (.int p1), .val (.int p2), .val (.int (2 : Int32)), .val (.ref s_UTF8), .val (.int ((own_bnd (p2 &&& (7 : Int32))) + ((p1 &&& (7 : Int32)) - (3 : Int32)))), .unset] [])) _
    refine XS.iloadN X2.here hx rfl (hb hby at_66) rfl ?_
    show Steps p.tables e below (T2.setTop (mkF m 67 #[.val (.int p0), .val (.int p1), .val (.int p2), .val (.int (2 : Int32)), .val (.ref s_UTF8), .val (.int ((own_bnd (p2 &&& (7 : Int32))) + ((p1 &&& (7 : Int32)) - (3 : Int32)))), .unset] [(.int (2 : Int32))])) _
    refine XS.ifYes X2.here hx rfl (pc0 := 67) (pc' := 92) rfl (hb hby at_67) rfl (by decide +kernel) (by decide) (by decide) ?_
    show Steps p.tables e below (T2.setTop (mkF m 92 #[.val (.int p0), .val (.int p1), .val (.int p2), .val (.int (2 : Int32)), .val (.ref s_UTF8), .val (.int ((own_bnd (p2 &&& (7 : Int32))) + ((p1 &&& (7 : Int32)) - (3 : Int32)))), .unset] [])) _
    refine XS.iloadN X2.here hx rfl (hb hby at_92) rfl ?_
    show Steps p.tables e below (T2.setTop (mkF m 93 #[.val (.int p0), .val (.int p1), .val (.int p2), .val (.int (2 : Int32)), .val (.ref s_UTF8), .val (.int ((own_bnd (p2 &&& (7 : Int32))) + ((p1 &&& (7 : Int32)) - (3 : Int32)))), .unset] [(.int (2 : Int32))])) _
    refine XS.iconst X2.here hx rfl (hb hby at_93) ?_
    show Steps p.tables e below (T2.setTop (mkF m 94 #[.val (.int p0), .val (.int p1), .val (.int p2), .val (.int (2 : Int32)), .val (.ref s_UTF8), .val (.int ((own_bnd (p2 &&& (7 : Int32))) + ((p1 &&& (7 : Int32)) - (3 : Int32)))), .unset] [(.int (1 : Int32)), (.int (2 : Int32))])) _
    refine XS.icmpYes X2.here hx rfl (pc0 := 94) (pc' := 133) rfl (hb hby at_94) rfl (by decide +kernel) (by decide) (by decide) ?_
    show Steps p.tables e below (T2.setTop (mkF m 133 #[.val (.int p0), .val (.int p1), .val (.int p2), .val (.int (2 : Int32)), .val (.ref s_UTF8), .val (.int ((own_bnd (p2 &&& (7 : Int32))) + ((p1 &&& (7 : Int32)) - (3 : Int32)))), .unset] [])) _
    refine XS.iload X2.here hx rfl (hb hby at_133) rfl ?_
    show Steps p.tables e below (T2.setTop (mkF m 135 #[.val (.int p0), .val (.int p1), .val (.int p2), .val (.int (2 : Int32)), .val (.ref s_UTF8), .val (.int ((own_bnd (p2 &&& (7 : Int32))) + ((p1 &&& (7 : Int32)) - (3 : Int32)))), .unset] [(.int ((own_bnd (p2 &&& (7 : Int32))) + ((p1 &&& (7 : Int32)) - (3 : Int32))))])) _
    refine XS.ifYes X2.here hx rfl (pc0 := 135) (pc' := 145) rfl (hb hby at_135) rfl hc_lt_0 (by decide) (by decide) ?_
    show Steps p.tables e below (T2.setTop (mkF m 145 #[.val (.int p0), .val (.int p1), .val (.int p2), .val (.int (2 : Int32)), .val (.ref s_UTF8), .val (.int ((own_bnd (p2 &&& (7 : Int32))) + ((p1 &&& (7 : Int32)) - (3 : Int32)))), .unset] [])) _
    refine XS.iload X2.here hx rfl (hb hby at_145) rfl ?_
    show Steps p.tables e below (T2.setTop (mkF m 147 #[.val (.int p0), .val (.int p1), .val (.int p2), .val (.int (2 : Int32)), .val (.ref s_UTF8), .val (.int ((own_bnd (p2 &&& (7 : Int32))) + ((p1 &&& (7 : Int32)) - (3 : Int32)))), .unset] [(.int ((own_bnd (p2 &&& (7 : Int32))) + ((p1 &&& (7 : Int32)) - (3 : Int32))))])) _
    refine X2.ldcInt hx hown (mvT hZ (hw _ (List.mem_of_getElem? (i := 19) rfl))) (g := (mkF m 147 #[.val (.int p0), .val (.int p1), .val (.int p2), .val (.int (2 : Int32)), .val (.ref s_UTF8), .val (.int ((own_bnd (p2 &&& (7 : Int32))) + ((p1 &&& (7 : Int32)) - (3 : Int32)))), .unset] [(.int ((own_bnd (p2 &&& (7 : Int32))) + ((p1 &&& (7 : Int32)) - (3 : Int32))))])) rfl (hb hby at_147) _ ?_
    show Steps p.tables e below (T2.setTop (mkF m 149 #[.val (.int p0), .val (.int p1), .val (.int p2), .val (.int (2 : Int32)), .val (.ref s_UTF8), .val (.int ((own_bnd (p2 &&& (7 : Int32))) + ((p1 &&& (7 : Int32)) - (3 : Int32)))), .unset] [(.int (57344 : Int32)), (.int ((own_bnd (p2 &&& (7 : Int32))) + ((p1 &&& (7 : Int32)) - (3 : Int32))))])) _
    refine XS.icmpYes X2.here hx rfl (pc0 := 149) (pc' := 163) rfl (hb hby at_149) rfl hc_lt_57344 (by decide) (by decide) ?_
    show Steps p.tables e below (T2.setTop (mkF m 163 #[.val (.int p0), .val (.int p1), .val (.int p2), .val (.int (2 : Int32)), .val (.ref s_UTF8), .val (.int ((own_bnd (p2 &&& (7 : Int32))) + ((p1 &&& (7 : Int32)) - (3 : Int32)))), .unset] [])) _
    refine XS.iconst X2.here hx rfl (hb hby at_163) ?_
    show Steps p.tables e below (T2.setTop (mkF m 164 #[.val (.int p0), .val (.int p1), .val (.int p2), .val (.int (2 : Int32)), .val (.ref s_UTF8), .val (.int ((own_bnd (p2 &&& (7 : Int32))) + ((p1 &&& (7 : Int32)) - (3 : Int32)))), .unset] [(.int (0 : Int32))])) _
    refine XS.istore X2.here hx rfl (hb hby at_164) rfl (l' := #[.val (.int p0), .val (.int p1), .val (.int p2), .val (.int (2 : Int32)), .val (.ref s_UTF8), .val (.int ((own_bnd (p2 &&& (7 : Int32))) + ((p1 &&& (7 : Int32)) - (3 : Int32)))), .val (.int (0 : Int32))]) rfl ?_
    show Steps p.tables e below (T2.setTop (mkF m 166 #[.val (.int p0), .val (.int p1), .val (.int p2), .val (.int (2 : Int32)), .val (.ref s_UTF8), .val (.int ((own_bnd (p2 &&& (7 : Int32))) + ((p1 &&& (7 : Int32)) - (3 : Int32)))), .val (.int (0 : Int32))] [])) _
    refine XS.aload X2.here hx rfl (hb hby at_166) rfl rfl ?_
    show Steps p.tables e below (T2.setTop (mkF m 168 #[.val (.int p0), .val (.int p1), .val (.int p2), .val (.int (2 : Int32)), .val (.ref s_UTF8), .val (.int ((own_bnd (p2 &&& (7 : Int32))) + ((p1 &&& (7 : Int32)) - (3 : Int32)))), .val (.int (0 : Int32))] [(.ref s_UTF8)])) _
    refine XS.iload X2.here hx rfl (hb hby at_168) rfl ?_
    show Steps p.tables e below (T2.setTop (mkF m 170 #[.val (.int p0), .val (.int p1), .val (.int p2), .val (.int (2 : Int32)), .val (.ref s_UTF8), .val (.int ((own_bnd (p2 &&& (7 : Int32))) + ((p1 &&& (7 : Int32)) - (3 : Int32)))), .val (.int (0 : Int32))] [(.int ((own_bnd (p2 &&& (7 : Int32))) + ((p1 &&& (7 : Int32)) - (3 : Int32)))), (.ref s_UTF8)])) _
    refine st3.trans ?_
    show Steps p.tables e below (T3.setTop (mkF m 173 #[.val (.int p0), .val (.int p1), .val (.int p2), .val (.int (2 : Int32)), .val (.ref s_UTF8), .val (.int ((own_bnd (p2 &&& (7 : Int32))) + ((p1 &&& (7 : Int32)) - (3 : Int32)))), .val (.int (0 : Int32))] [(.int (0 : Int32))])) _
    refine XS.iload X3.here hx rfl (hb hby at_173) rfl ?_
    show Steps p.tables e below (T3.setTop (mkF m 175 #[.val (.int p0), .val (.int p1), .val (.int p2), .val (.int (2 : Int32)), .val (.ref s_UTF8), .val (.int ((own_bnd (p2 &&& (7 : Int32))) + ((p1 &&& (7 : Int32)) - (3 : Int32)))), .val (.int (0 : Int32))] [(.int (0 : Int32)), (.int (0 : Int32))])) _
    refine XS.icmpNo X3.here hx rfl (hb hby at_175) rfl (by decide +kernel) ?_
    show Steps p.tables e below (T3.setTop (mkF m 178 #[.val (.int p0), .val (.int p1), .val (.int p2), .val (.int (2 : Int32)), .val (.ref s_UTF8), .val (.int ((own_bnd (p2 &&& (7 : Int32))) + ((p1 &&& (7 : Int32)) - (3 : Int32)))), .val (.int (0 : Int32))] [])) _
    refine XS.iconst X3.here hx rfl (hb hby at_178) ?_
    show Steps p.tables e below (T3.setTop (mkF m 179 #[.val (.int p0), .val (.int p1), .val (.int p2), .val (.int (2 : Int32)), .val (.ref s_UTF8), .val (.int ((own_bnd (p2 &&& (7 : Int32))) + ((p1 &&& (7 : Int32)) - (3 : Int32)))), .val (.int (0 : Int32))] [(.int (1 : Int32))])) _
    refine XS.goto X3.here hx rfl (pc0 := 179) (pc' := 183) rfl (hb hby at_179) (by decide) (by decide) ?_
    show Steps p.tables e below (T3.setTop (mkF m 183 #[.val (.int p0), .val (.int p1), .val (.int p2), .val (.int (2 : Int32)), .val (.ref s_UTF8), .val (.int ((own_bnd (p2 &&& (7 : Int32))) + ((p1 &&& (7 : Int32)) - (3 : Int32)))), .val (.int (0 : Int32))] [(.int (1 : Int32))])) _
    exact retN X3 hx (t := .boolean) Bd.returns (by simp) (hb hby at_183) hr
  · exact ⟨rfl, N3, e3⟩
set_option maxRecDepth 65536 in
set_option maxHeartbeats 40000000 in
theorem r42 (l : Launch) (Z : State) (a0 : Array Value) (hw : ∀ d ∈ tables_1, d.before a0 Z = true) (ws : List Jvm.Cond) (h0 : Heap) (n0 : Nat) (s_IA5 : Addr) (s_BMP : Addr) (s_UTF8 : Addr) (K : Ctx Z h0 s_IA5 s_BMP s_UTF8) (p1 : Int32) (p2 : Int32) (hc_lt_0 : ifCond.holds .lt ((own_bnd (p2 &&& (7 : Int32))) + ((p1 &&& (7 : Int32)) - (3 : Int32))) = false) (hc_gt_1114111 : if_icmp.holds .gt ((own_bnd (p2 &&& (7 : Int32))) + ((p1 &&& (7 : Int32)) - (3 : Int32))) (1114111 : Int32) = false) (hc_lt_55296 : if_icmp.holds .lt ((own_bnd (p2 &&& (7 : Int32))) + ((p1 &&& (7 : Int32)) - (3 : Int32))) (55296 : Int32) = true) :
    MetFree l (⟨"com/example/plainwire/plainwire/definitions/Repertoire", "holds", "(I)Z"⟩ : MethodName) (head1 (Jvm.Cond.code (⟨"com/example/plainwire/plainwire/definitions/Repertoire", "holds", "(I)Z"⟩ : MethodName) prog_37_method_5_code 2 (some .boolean) :: ws) ({ frames := 0, cells := 0, slots := 0, locals := 0 } : Room)) (fun a U => a = #[(.ref s_UTF8), (.int ((own_bnd (p2 &&& (7 : Int32))) + ((p1 &&& (7 : Int32)) - (3 : Int32))))] ∧ Z.Warmed39 U.vm ∧ U.heap = h0) (fun _ _ _ _ _ => True) (fun _ U o U' => ∃ v L, o = .returned v ∧ QV (.int (1 : Int32)) h0 n0 v U'.heap L ∧ FrameEnd U o U' L ({ frames := 0, cells := 0, slots := 0, locals := 0 } : Room).cells ({ frames := 0, cells := 0, slots := 0, locals := 0 } : Room).slots) := by
  obtain ⟨S_IA5, E_IA5, F_IA5_lastCodePoint, S_BMP, E_BMP, F_BMP_lastCodePoint, S_UTF8, E_UTF8, F_UTF8_lastCodePoint⟩ := id K
  refine MetFree.of_bodySF (plainFor_of_name pn1) hisR ?_
  intro p e s m args below meth c s₁ Bd hml0 hP hK
  obtain ⟨rfl, hZ, hh⟩ := hP
  have hx := Bd.exec
  have hby := Bd.bytes
  have hml : c.maxLocals = 2 := hml0
  have hown : s.vm.findClass "com/example/plainwire/plainwire/definitions/Repertoire" = some m.cls := findClass_of_methodNamed Bd.named
  have X0 : Stand p l e ({ frames := 0, cells := 0, slots := 0, locals := 0 } : Room) s m #[(.ref s_UTF8), (.int ((own_bnd (p2 &&& (7 : Int32))) + ((p1 &&& (7 : Int32)) - (3 : Int32))))] below meth c s₁ [] 0 0 := Stand.of_body Bd
  have e0 : s₁.heap = h0 := by rw [← hh, Bd.state]; rfl
  have N0 := Fr.nil n0
  have pre0 : ∀ t, Steps p.tables e below (s₁.setTop (mkF m 0 #[.val (.ref s_UTF8), .val (.int ((own_bnd (p2 &&& (7 : Int32))) + ((p1 &&& (7 : Int32)) - (3 : Int32))))] [])) t → Steps p.tables e below (s₁.setTop (entryFrame m #[(.ref s_UTF8), (.int ((own_bnd (p2 &&& (7 : Int32))) + ((p1 &&& (7 : Int32)) - (3 : Int32))))] 2)) t := fun t k => castTop (by first | (simp [entryFrame, mkF, argsToLocals, Value.category]; done) | rfl) k
  obtain ⟨T1, X1, e1, st1⟩ := getF X0 hx hZ hown (host := "") (Or.inl (hw _ (List.mem_of_getElem? (i := 14) rfl))) Via.refl e0 F_UTF8_lastCodePoint (g := (mkF m 6 #[.val (.ref s_UTF8), .val (.int ((own_bnd (p2 &&& (7 : Int32))) + ((p1 &&& (7 : Int32)) - (3 : Int32))))] [(.ref s_UTF8), (.int ((own_bnd (p2 &&& (7 : Int32))) + ((p1 &&& (7 : Int32)) - (3 : Int32))))])) rfl rfl (hb hby d1_6)
  obtain ⟨fs, hr, hrun, hended, hW, hsame⟩ := X1.leave (v := some (.int (1 : Int32))) (fun h => by rw [Bd.returns] at h; cases h)
  refine ⟨_, _, pre0 _ ?_, hrun, hended, _, _, rfl, ?_, ⟨_, rfl⟩, hW, hsame.mono (by decide) (by decide)⟩
  · show Steps p.tables e below (s₁.setTop (mkF m 0 #[.val (.ref s_UTF8), .val (.int ((own_bnd (p2 &&& (7 : Int32))) + ((p1 &&& (7 : Int32)) - (3 : Int32))))] [])) _
    refine XS.iloadN X0.here hx rfl (hb hby d1_0) rfl ?_
    show Steps p.tables e below (s₁.setTop (mkF m 1 #[.val (.ref s_UTF8), .val (.int ((own_bnd (p2 &&& (7 : Int32))) + ((p1 &&& (7 : Int32)) - (3 : Int32))))] [(.int ((own_bnd (p2 &&& (7 : Int32))) + ((p1 &&& (7 : Int32)) - (3 : Int32))))])) _
    refine XS.ifNo X0.here hx rfl (hb hby d1_1) rfl hc_lt_0 ?_
    show Steps p.tables e below (s₁.setTop (mkF m 4 #[.val (.ref s_UTF8), .val (.int ((own_bnd (p2 &&& (7 : Int32))) + ((p1 &&& (7 : Int32)) - (3 : Int32))))] [])) _
    refine XS.iloadN X0.here hx rfl (hb hby d1_4) rfl ?_
    show Steps p.tables e below (s₁.setTop (mkF m 5 #[.val (.ref s_UTF8), .val (.int ((own_bnd (p2 &&& (7 : Int32))) + ((p1 &&& (7 : Int32)) - (3 : Int32))))] [(.int ((own_bnd (p2 &&& (7 : Int32))) + ((p1 &&& (7 : Int32)) - (3 : Int32))))])) _
    refine XS.aloadN X0.here hx rfl (hb hby d1_5) rfl rfl ?_
    show Steps p.tables e below (s₁.setTop (mkF m 6 #[.val (.ref s_UTF8), .val (.int ((own_bnd (p2 &&& (7 : Int32))) + ((p1 &&& (7 : Int32)) - (3 : Int32))))] [(.ref s_UTF8), (.int ((own_bnd (p2 &&& (7 : Int32))) + ((p1 &&& (7 : Int32)) - (3 : Int32))))])) _
    refine st1 _ ?_
    show Steps p.tables e below (T1.setTop (mkF m 9 #[.val (.ref s_UTF8), .val (.int ((own_bnd (p2 &&& (7 : Int32))) + ((p1 &&& (7 : Int32)) - (3 : Int32))))] [(.int (1114111 : Int32)), (.int ((own_bnd (p2 &&& (7 : Int32))) + ((p1 &&& (7 : Int32)) - (3 : Int32))))])) _
    refine XS.icmpNo X1.here hx rfl (hb hby d1_9) rfl hc_gt_1114111 ?_
    show Steps p.tables e below (T1.setTop (mkF m 12 #[.val (.ref s_UTF8), .val (.int ((own_bnd (p2 &&& (7 : Int32))) + ((p1 &&& (7 : Int32)) - (3 : Int32))))] [])) _
    refine XS.iloadN X1.here hx rfl (hb hby d1_12) rfl ?_
    show Steps p.tables e below (T1.setTop (mkF m 13 #[.val (.ref s_UTF8), .val (.int ((own_bnd (p2 &&& (7 : Int32))) + ((p1 &&& (7 : Int32)) - (3 : Int32))))] [(.int ((own_bnd (p2 &&& (7 : Int32))) + ((p1 &&& (7 : Int32)) - (3 : Int32))))])) _
    refine X1.ldcInt hx hown (mvT hZ (hw _ (List.mem_of_getElem? (i := 21) rfl))) (g := (mkF m 13 #[.val (.ref s_UTF8), .val (.int ((own_bnd (p2 &&& (7 : Int32))) + ((p1 &&& (7 : Int32)) - (3 : Int32))))] [(.int ((own_bnd (p2 &&& (7 : Int32))) + ((p1 &&& (7 : Int32)) - (3 : Int32))))])) rfl (hb hby d1_13) _ ?_
    show Steps p.tables e below (T1.setTop (mkF m 15 #[.val (.ref s_UTF8), .val (.int ((own_bnd (p2 &&& (7 : Int32))) + ((p1 &&& (7 : Int32)) - (3 : Int32))))] [(.int (55296 : Int32)), (.int ((own_bnd (p2 &&& (7 : Int32))) + ((p1 &&& (7 : Int32)) - (3 : Int32))))])) _
    refine XS.icmpYes X1.here hx rfl (pc0 := 15) (pc' := 24) rfl (hb hby d1_15) rfl hc_lt_55296 (by decide) (by decide) ?_
    show Steps p.tables e below (T1.setTop (mkF m 24 #[.val (.ref s_UTF8), .val (.int ((own_bnd (p2 &&& (7 : Int32))) + ((p1 &&& (7 : Int32)) - (3 : Int32))))] [])) _
    refine XS.iconst X1.here hx rfl (hb hby d1_24) ?_
    show Steps p.tables e below (T1.setTop (mkF m 25 #[.val (.ref s_UTF8), .val (.int ((own_bnd (p2 &&& (7 : Int32))) + ((p1 &&& (7 : Int32)) - (3 : Int32))))] [(.int (1 : Int32))])) _
    refine XS.goto X1.here hx rfl (pc0 := 25) (pc' := 29) rfl (hb hby d1_25) (by decide) (by decide) ?_
    show Steps p.tables e below (T1.setTop (mkF m 29 #[.val (.ref s_UTF8), .val (.int ((own_bnd (p2 &&& (7 : Int32))) + ((p1 &&& (7 : Int32)) - (3 : Int32))))] [(.int (1 : Int32))])) _
    exact retN X1 hx (t := .boolean) Bd.returns (by simp) (hb hby d1_29) hr
  · exact ⟨rfl, N0, e1⟩
set_option maxRecDepth 65536 in
set_option maxHeartbeats 40000000 in
theorem law_k2_0_1 (l : Launch) (Z : State) (a0 : Array Value) (hw : ∀ d ∈ tables_1, d.before a0 Z = true) (ws : List Jvm.Cond) (h0 : Heap) (n0 : Nat) (s_IA5 : Addr) (s_BMP : Addr) (s_UTF8 : Addr) (K : Ctx Z h0 s_IA5 s_BMP s_UTF8) (p0 : Int32) (p1 : Int32) (p2 : Int32) (ha : ((p0 &&& (2147483647 : Int32)) % (3 : Int32)) = (2 : Int32)) (hb1 : (p2 &&& (8 : Int32)) = (0 : Int32)) (hc_lt_0 : ifCond.holds .lt ((own_bnd (p2 &&& (7 : Int32))) + ((p1 &&& (7 : Int32)) - (3 : Int32))) = false) (hc_lt_55296 : if_icmp.holds .lt ((own_bnd (p2 &&& (7 : Int32))) + ((p1 &&& (7 : Int32)) - (3 : Int32))) (55296 : Int32) = true) (hc_gt_1114111 : if_icmp.holds .gt ((own_bnd (p2 &&& (7 : Int32))) + ((p1 &&& (7 : Int32)) - (3 : Int32))) (1114111 : Int32) = false) :
    MetFree l x (head1 (Jvm.Cond.code x code maxLocals ret :: ws) room_1) (fun a U => a = #[(.int p0), (.int p1), (.int p2)] ∧ Z.Warmed39 U.vm ∧ U.heap = h0) (fun _ _ _ _ _ => True) (fun _ U o U' => ∃ v L, o = .returned v ∧ QV (.int (1 : Int32)) h0 n0 v U'.heap L ∧ FrameEnd U o U' L room_1.cells room_1.slots) := by
  obtain ⟨S_IA5, E_IA5, F_IA5_lastCodePoint, S_BMP, E_BMP, F_BMP_lastCodePoint, S_UTF8, E_UTF8, F_UTF8_lastCodePoint⟩ := id K
  refine MetFree.of_bodySF (plainFor_of_name pn2) hisR ?_
  intro p e s m args below meth c s₁ Bd hml0 hP hK
  obtain ⟨rfl, hZ, hh⟩ := hP
  have hx := Bd.exec
  have hby := Bd.bytes
  have hml : c.maxLocals = 7 := hml0
  have hown : s.vm.findClass "com/example/plainwire/plainwire/definitions/RepertoireHoldsPinLaw" = some m.cls := findClass_of_methodNamed Bd.named
  have X0 : Stand p l e room_1 s m #[(.int p0), (.int p1), (.int p2)] below meth c s₁ [] 0 0 := Stand.of_body Bd
  have e0 : s₁.heap = h0 := by rw [← hh, Bd.state]; rfl
  have N0 := Fr.nil n0
  have pre0 : ∀ t, Steps p.tables e below (s₁.setTop (mkF m 0 #[.val (.int p0), .val (.int p1), .val (.int p2), .unset, .unset, .unset, .unset] [])) t → Steps p.tables e below (s₁.setTop (entryFrame m #[(.int p0), (.int p1), (.int p2)] maxLocals)) t := fun t k => castTop (by first | (simp [entryFrame, mkF, argsToLocals, Value.category, maxLocals]; done) | rfl) k
  obtain ⟨T1, X1, e1, st1⟩ := getS X0 hx hZ hown (host := "") (hw _ (List.mem_of_getElem? (i := 23) rfl)) Via.refl e0 S_UTF8 (g := (mkF m 32 #[.val (.int p0), .val (.int p1), .val (.int p2), .val (.int (2 : Int32)), .unset, .unset, .unset] [])) rfl (hb hby at_32)
  obtain ⟨_, _, ⟨T2, L2, k2, n2⟩, -, X2, ⟨Lc2, hQ2, l2, y2, z2⟩, st2⟩ := Jvm.LawKit.callS X1 hx (y := (⟨"com/example/plainwire/plainwire/definitions/RepertoireHoldsPinLaw", "boundary", "(I)I"⟩ : MethodName)) hown (mvT hZ (hw _ (List.mem_of_getElem? (i := 4) rfl))) (mvT hZ (hw _ (List.mem_of_getElem? (i := 5) rfl))) (mvT hZ (hw _ (List.mem_of_getElem? (i := 6) rfl))) (mvT hZ (hw _ (List.mem_of_getElem? (i := 7) rfl))) (by decide) (backOf (W := 0) (own_bndK l Z a0 hw [] h0 n0 s_IA5 s_BMP s_UTF8 K (p2 &&& (7 : Int32)) (own_and8 p2)) hZ (hw _ (List.mem_of_getElem? (i := 7) rfl)) (hw _ (List.mem_of_getElem? (i := 6) rfl)) (by decide) (by decide)) (g := (mkF m 54 #[.val (.int p0), .val (.int p1), .val (.int p2), .val (.int (2 : Int32)), .val (.ref s_UTF8), .unset, .unset] [(.int (p2 &&& (7 : Int32)))])) rfl (by rw [hml]; rfl) (argsL := [(.int (p2 &&& (7 : Int32)))]) (rest := []) (lenOf pd0 rfl) rfl (by show 2 * 0 + _ ≤ _; exact Nat.le_of_eq rfl) (hb hby at_54) (fun _ _ => ⟨rfl, e1, (by decide : 0 + 0 ≤ _), (by decide : 0 + 0 ≤ _)⟩)
  dsimp only [Pt.U, Pt.locs, Pt.cells, Pt.slots] at X2 l2 y2 z2 st2 hQ2
  subst l2 y2 z2
  obtain ⟨rfl, N2q, e2⟩ := hQ2
  have N2 := Fr.app N0 N2q
  obtain ⟨cq3, kq3, q3a, q3b, q3c⟩ := isOf hZ e2 E_UTF8
  obtain ⟨_, _, ⟨T3, L3, k3, n3⟩, -, X3, ⟨Lc3, hQ3, l3, y3, z3⟩, st3⟩ := X2.virtualBack hx (y := (⟨"com/example/plainwire/plainwire/definitions/Repertoire", "holds", "(I)Z"⟩ : MethodName)) (z := (⟨"com/example/plainwire/plainwire/definitions/Repertoire", "holds", "(I)Z"⟩ : MethodName)) hown (mvT hZ (hw _ (List.mem_of_getElem? (i := 9) rfl))) (mvT hZ (hw _ (List.mem_of_getElem? (i := 10) rfl))) (notFace_of_selects (args := #[]) (mvT hZ (hw _ (List.mem_of_getElem? (i := 12) rfl)))) (mvT hZ (hw _ (List.mem_of_getElem? (i := 12) rfl))) (mvT hZ (hw _ (List.mem_of_getElem? (i := 11) rfl))) (by decide) (backOf (W := 0) (r42 l Z a0 hw [] h0 n0 s_IA5 s_BMP s_UTF8 K p1 p2 hc_lt_0 hc_gt_1114111 hc_lt_55296) hZ (hw _ (List.mem_of_getElem? (i := 13) rfl)) (hw _ (List.mem_of_getElem? (i := 2) rfl)) (by decide) (by decide)) q3a q3c (g := (mkF m 170 #[.val (.int p0), .val (.int p1), .val (.int p2), .val (.int (2 : Int32)), .val (.ref s_UTF8), .val (.int ((own_bnd (p2 &&& (7 : Int32))) + ((p1 &&& (7 : Int32)) - (3 : Int32)))), .val (.int (1 : Int32))] [(.int ((own_bnd (p2 &&& (7 : Int32))) + ((p1 &&& (7 : Int32)) - (3 : Int32)))), (.ref s_UTF8)])) rfl (by rw [hml]; rfl) (Steps.refl _) (argsL := [(.int ((own_bnd (p2 &&& (7 : Int32))) + ((p1 &&& (7 : Int32)) - (3 : Int32))))]) (rest := []) (lenOf pd1 rfl) rfl (by show 2 * 0 + _ ≤ _; exact Nat.le_of_eq rfl) (hb hby at_170) (fun _ _ => ⟨rfl, e2, (by decide : 0 + 0 ≤ _), (by decide : 0 + 0 ≤ _)⟩)
  dsimp only [Pt.U, Pt.locs, Pt.cells, Pt.slots] at X3 l3 y3 z3 st3 hQ3
  subst l3 y3 z3
  obtain ⟨rfl, N3q, e3⟩ := hQ3
  have N3 := Fr.app N2 N3q
  obtain ⟨fs, hr, hrun, hended, hW, hsame⟩ := X3.leave (v := some (.int (1 : Int32))) (fun h => by rw [Bd.returns] at h; cases h)
  refine ⟨_, _, pre0 _ ?_, hrun, hended, _, _, rfl, ?_, ⟨_, rfl⟩, hW, hsame.mono (by decide) (by decide)⟩
  · show Steps p.tables e below (s₁.setTop (mkF m 0 #[.val (.int p0), .val (.int p1), .val (.int p2), .unset, .unset, .unset, .unset] [])) _
    refine XS.iloadN X0.here hx rfl (hb hby at_0) rfl ?_
    show Steps p.tables e below (s₁.setTop (mkF m 1 #[.val (.int p0), .val (.int p1), .val (.int p2), .unset, .unset, .unset, .unset] [(.int p0)])) _
    refine X0.ldcInt hx hown (mvT hZ (hw _ (List.mem_of_getElem? (i := 0) rfl))) (g := (mkF m 1 #[.val (.int p0), .val (.int p1), .val (.int p2), .unset, .unset, .unset, .unset] [(.int p0)])) rfl (hb hby at_1) _ ?_
    show Steps p.tables e below (s₁.setTop (mkF m 3 #[.val (.int p0), .val (.int p1), .val (.int p2), .unset, .unset, .unset, .unset] [(.int (2147483647 : Int32)), (.int p0)])) _
    refine XS.iand X0.here hx rfl (hb hby at_3) rfl ?_
    show Steps p.tables e below (s₁.setTop (mkF m 4 #[.val (.int p0), .val (.int p1), .val (.int p2), .unset, .unset, .unset, .unset] [(.int (p0 &&& (2147483647 : Int32)))])) _
    refine XS.iconst X0.here hx rfl (hb hby at_4) ?_
    show Steps p.tables e below (s₁.setTop (mkF m 5 #[.val (.int p0), .val (.int p1), .val (.int p2), .unset, .unset, .unset, .unset] [(.int (3 : Int32)), (.int (p0 &&& (2147483647 : Int32)))])) _
    refine Jvm.RoadKit.iremM X0 hx rfl (hb hby at_5) rfl (by decide) ?_
    show Steps p.tables e below (s₁.setTop (mkF m 6 #[.val (.int p0), .val (.int p1), .val (.int p2), .unset, .unset, .unset, .unset] [(.int ((p0 &&& (2147483647 : Int32)) % (3 : Int32)))])) _
    rw [ha]
    show Steps p.tables e below (s₁.setTop (mkF m 6 #[.val (.int p0), .val (.int p1), .val (.int p2), .unset, .unset, .unset, .unset] [(.int (2 : Int32))])) _
    refine XS.istoreN X0.here hx rfl (hb hby at_6) rfl (l' := #[.val (.int p0), .val (.int p1), .val (.int p2), .val (.int (2 : Int32)), .unset, .unset, .unset]) rfl ?_
    show Steps p.tables e below (s₁.setTop (mkF m 7 #[.val (.int p0), .val (.int p1), .val (.int p2), .val (.int (2 : Int32)), .unset, .unset, .unset] [])) _
    refine XS.iloadN X0.here hx rfl (hb hby at_7) rfl ?_
    show Steps p.tables e below (s₁.setTop (mkF m 8 #[.val (.int p0), .val (.int p1), .val (.int p2), .val (.int (2 : Int32)), .unset, .unset, .unset] [(.int (2 : Int32))])) _
    refine XS.ifYes X0.here hx rfl (pc0 := 8) (pc' := 19) rfl (hb hby at_8) rfl (by decide +kernel) (by decide) (by decide) ?_
    show Steps p.tables e below (s₁.setTop (mkF m 19 #[.val (.int p0), .val (.int p1), .val (.int p2), .val (.int (2 : Int32)), .unset, .unset, .unset] [])) _
    refine XS.iloadN X0.here hx rfl (hb hby at_19) rfl ?_
    show Steps p.tables e below (s₁.setTop (mkF m 20 #[.val (.int p0), .val (.int p1), .val (.int p2), .val (.int (2 : Int32)), .unset, .unset, .unset] [(.int (2 : Int32))])) _
    refine XS.iconst X0.here hx rfl (hb hby at_20) ?_
    show Steps p.tables e below (s₁.setTop (mkF m 21 #[.val (.int p0), .val (.int p1), .val (.int p2), .val (.int (2 : Int32)), .unset, .unset, .unset] [(.int (1 : Int32)), (.int (2 : Int32))])) _
    refine XS.icmpYes X0.here hx rfl (pc0 := 21) (pc' := 32) rfl (hb hby at_21) rfl (by decide +kernel) (by decide) (by decide) ?_
    show Steps p.tables e below (s₁.setTop (mkF m 32 #[.val (.int p0), .val (.int p1), .val (.int p2), .val (.int (2 : Int32)), .unset, .unset, .unset] [])) _
    refine st1 _ ?_
    show Steps p.tables e below (T1.setTop (mkF m 35 #[.val (.int p0), .val (.int p1), .val (.int p2), .val (.int (2 : Int32)), .unset, .unset, .unset] [(.ref s_UTF8)])) _
    refine XS.astore X1.here hx rfl (hb hby at_35) rfl rfl (l' := #[.val (.int p0), .val (.int p1), .val (.int p2), .val (.int (2 : Int32)), .val (.ref s_UTF8), .unset, .unset]) rfl ?_
    show Steps p.tables e below (T1.setTop (mkF m 37 #[.val (.int p0), .val (.int p1), .val (.int p2), .val (.int (2 : Int32)), .val (.ref s_UTF8), .unset, .unset] [])) _
    refine XS.iloadN X1.here hx rfl (hb hby at_37) rfl ?_
    show Steps p.tables e below (T1.setTop (mkF m 38 #[.val (.int p0), .val (.int p1), .val (.int p2), .val (.int (2 : Int32)), .val (.ref s_UTF8), .unset, .unset] [(.int p2)])) _
    refine XS.bipush X1.here hx rfl (hb hby at_38) ?_
    show Steps p.tables e below (T1.setTop (mkF m 40 #[.val (.int p0), .val (.int p1), .val (.int p2), .val (.int (2 : Int32)), .val (.ref s_UTF8), .unset, .unset] [(.int (8 : Int32)), (.int p2)])) _
    refine XS.iand X1.here hx rfl (hb hby at_40) rfl ?_
    show Steps p.tables e below (T1.setTop (mkF m 41 #[.val (.int p0), .val (.int p1), .val (.int p2), .val (.int (2 : Int32)), .val (.ref s_UTF8), .unset, .unset] [(.int (p2 &&& (8 : Int32)))])) _
    rw [hb1]
    show Steps p.tables e below (T1.setTop (mkF m 41 #[.val (.int p0), .val (.int p1), .val (.int p2), .val (.int (2 : Int32)), .val (.ref s_UTF8), .unset, .unset] [(.int (0 : Int32))])) _
    refine XS.ifYes X1.here hx rfl (pc0 := 41) (pc' := 50) rfl (hb hby at_41) rfl (by decide +kernel) (by decide) (by decide) ?_
    show Steps p.tables e below (T1.setTop (mkF m 50 #[.val (.int p0), .val (.int p1), .val (.int p2), .val (.int (2 : Int32)), .val (.ref s_UTF8), .unset, .unset] [])) _
    refine XS.iloadN X1.here hx rfl (hb hby at_50) rfl ?_
    show Steps p.tables e below (T1.setTop (mkF m 51 #[.val (.int p0), .val (.int p1), .val (.int p2), .val (.int (2 : Int32)), .val (.ref s_UTF8), .unset, .unset] [(.int p2)])) _
    refine XS.bipush X1.here hx rfl (hb hby at_51) ?_
    show Steps p.tables e below (T1.setTop (mkF m 53 #[.val (.int p0), .val (.int p1), .val (.int p2), .val (.int (2 : Int32)), .val (.ref s_UTF8), .unset, .unset] [(.int (7 : Int32)), (.int p2)])) _
    refine XS.iand X1.here hx rfl (hb hby at_53) rfl ?_
    show Steps p.tables e below (T1.setTop (mkF m 54 #[.val (.int p0), .val (.int p1), .val (.int p2), .val (.int (2 : Int32)), .val (.ref s_UTF8), .unset, .unset] [(.int (p2 &&& (7 : Int32)))])) _
    refine st2 _ ?_
    show Steps p.tables e below (T2.setTop (mkF m 57 #[.val (.int p0), .val (.int p1), .val (.int p2), .val (.int (2 : Int32)), .val (.ref s_UTF8), .unset, .unset] [(.int (own_bnd (p2 &&& (7 : Int32))))])) _
    refine XS.iloadN X2.here hx rfl (hb hby at_57) rfl ?_
    show Steps p.tables e below (T2.setTop (mkF m 58 #[.val (.int p0), .val (.int p1), .val (.int p2), .val (.int (2 : Int32)), .val (.ref s_UTF8), .unset, .unset] [(.int p1), (.int (own_bnd (p2 &&& (7 : Int32))))])) _
    refine XS.bipush X2.here hx rfl (hb hby at_58) ?_
    show Steps p.tables e below (T2.setTop (mkF m 60 #[.val (.int p0), .val (.int p1), .val (.int p2), .val (.int (2 : Int32)), .val (.ref s_UTF8), .unset, .unset] [(.int (7 : Int32)), (.int p1), (.int (own_bnd (p2 &&& (7 : Int32))))])) _
    refine XS.iand X2.here hx rfl (hb hby at_60) rfl ?_
    show Steps p.tables e below (T2.setTop (mkF m 61 #[.val (.int p0), .val (.int p1), .val (.int p2), .val (.int (2 : Int32)), .val (.ref s_UTF8), .unset, .unset] [(.int (p1 &&& (7 : Int32))), (.int (own_bnd (p2 &&& (7 : Int32))))])) _
    refine XS.iconst X2.here hx rfl (hb hby at_61) ?_
    show Steps p.tables e below (T2.setTop (mkF m 62 #[.val (.int p0), .val (.int p1), .val (.int p2), .val (.int (2 : Int32)), .val (.ref s_UTF8), .unset, .unset] [(.int (3 : Int32)), (.int (p1 &&& (7 : Int32))), (.int (own_bnd (p2 &&& (7 : Int32))))])) _
    refine XS.isub X2.here hx rfl (hb hby at_62) rfl ?_
    show Steps p.tables e below (T2.setTop (mkF m 63 #[.val (.int p0), .val (.int p1), .val (.int p2), .val (.int (2 : Int32)), .val (.ref s_UTF8), .unset, .unset] [(.int ((p1 &&& (7 : Int32)) - (3 : Int32))), (.int (own_bnd (p2 &&& (7 : Int32))))])) _
    refine XS.iadd X2.here hx rfl (hb hby at_63) rfl ?_
    show Steps p.tables e below (T2.setTop (mkF m 64 #[.val (.int p0), .val (.int p1), .val (.int p2), .val (.int (2 : Int32)), .val (.ref s_UTF8), .unset, .unset] [(.int ((own_bnd (p2 &&& (7 : Int32))) + ((p1 &&& (7 : Int32)) - (3 : Int32))))])) _
    refine XS.istore X2.here hx rfl (hb hby at_64) rfl (l' := #[.val (.int p0), .val (.int p1), .val (.int p2), .val (.int (2 : Int32)), .val (.ref s_UTF8), .val (.int ((own_bnd (p2 &&& (7 : Int32))) + ((p1 &&& (7 : Int32)) - (3 : Int32)))), .unset]) rfl ?_
    show Steps p.tables e below (T2.setTop (mkF m 66 #[.val (.int p0), .val (.int p1), .val (.int p2), .val (.int (2 : Int32)), .val (.ref s_UTF8), .val (.int ((own_bnd (p2 &&& (7 : Int32))) + ((p1 &&& (7 : Int32)) - (3 : Int32)))), .unset] [])) _
    refine XS.iloadN X2.here hx rfl (hb hby at_66) rfl ?_
    show Steps p.tables e below (T2.setTop (mkF m 67 #[.val (.int p0), .val (.int p1), .val (.int p2), .val (.int (2 : Int32)), .val (.ref s_UTF8), .val (.int ((own_bnd (p2 &&& (7 : Int32))) + ((p1 &&& (7 : Int32)) - (3 : Int32)))), .unset] [(.int (2 : Int32))])) _
    refine XS.ifYes X2.here hx rfl (pc0 := 67) (pc' := 92) rfl (hb hby at_67) rfl (by decide +kernel) (by decide) (by decide) ?_
    show Steps p.tables e below (T2.setTop (mkF m 92 #[.val (.int p0), .val (.int p1), .val (.int p2), .val (.int (2 : Int32)), .val (.ref s_UTF8), .val (.int ((own_bnd (p2 &&& (7 : Int32))) + ((p1 &&& (7 : Int32)) - (3 : Int32)))), .unset] [])) _
    refine XS.iloadN X2.here hx rfl (hb hby at_92) rfl ?_
    show Steps p.tables e below (T2.setTop (mkF m 93 #[.val (.int p0), .val (.int p1), .val (.int p2), .val (.int (2 : Int32)), .val (.ref s_UTF8), .val (.int ((own_bnd (p2 &&& (7 : Int32))) + ((p1 &&& (7 : Int32)) - (3 : Int32)))), .unset] [(.int (2 : Int32))])) _
    refine XS.iconst X2.here hx rfl (hb hby at_93) ?_
    show Steps p.tables e below (T2.setTop (mkF m 94 #[.val (.int p0), .val (.int p1), .val (.int p2), .val (.int (2 : Int32)), .val (.ref s_UTF8), .val (.int ((own_bnd (p2 &&& (7 : Int32))) + ((p1 &&& (7 : Int32)) - (3 : Int32)))), .unset] [(.int (1 : Int32)), (.int (2 : Int32))])) _
    refine XS.icmpYes X2.here hx rfl (pc0 := 94) (pc' := 133) rfl (hb hby at_94) rfl (by decide +kernel) (by decide) (by decide) ?_
    show Steps p.tables e below (T2.setTop (mkF m 133 #[.val (.int p0), .val (.int p1), .val (.int p2), .val (.int (2 : Int32)), .val (.ref s_UTF8), .val (.int ((own_bnd (p2 &&& (7 : Int32))) + ((p1 &&& (7 : Int32)) - (3 : Int32)))), .unset] [])) _
    refine XS.iload X2.here hx rfl (hb hby at_133) rfl ?_
    show Steps p.tables e below (T2.setTop (mkF m 135 #[.val (.int p0), .val (.int p1), .val (.int p2), .val (.int (2 : Int32)), .val (.ref s_UTF8), .val (.int ((own_bnd (p2 &&& (7 : Int32))) + ((p1 &&& (7 : Int32)) - (3 : Int32)))), .unset] [(.int ((own_bnd (p2 &&& (7 : Int32))) + ((p1 &&& (7 : Int32)) - (3 : Int32))))])) _
    refine XS.ifNo X2.here hx rfl (hb hby at_135) rfl hc_lt_0 ?_
    show Steps p.tables e below (T2.setTop (mkF m 138 #[.val (.int p0), .val (.int p1), .val (.int p2), .val (.int (2 : Int32)), .val (.ref s_UTF8), .val (.int ((own_bnd (p2 &&& (7 : Int32))) + ((p1 &&& (7 : Int32)) - (3 : Int32)))), .unset] [])) _
    refine XS.iload X2.here hx rfl (hb hby at_138) rfl ?_
    show Steps p.tables e below (T2.setTop (mkF m 140 #[.val (.int p0), .val (.int p1), .val (.int p2), .val (.int (2 : Int32)), .val (.ref s_UTF8), .val (.int ((own_bnd (p2 &&& (7 : Int32))) + ((p1 &&& (7 : Int32)) - (3 : Int32)))), .unset] [(.int ((own_bnd (p2 &&& (7 : Int32))) + ((p1 &&& (7 : Int32)) - (3 : Int32))))])) _
    refine X2.ldcInt hx hown (mvT hZ (hw _ (List.mem_of_getElem? (i := 8) rfl))) (g := (mkF m 140 #[.val (.int p0), .val (.int p1), .val (.int p2), .val (.int (2 : Int32)), .val (.ref s_UTF8), .val (.int ((own_bnd (p2 &&& (7 : Int32))) + ((p1 &&& (7 : Int32)) - (3 : Int32)))), .unset] [(.int ((own_bnd (p2 &&& (7 : Int32))) + ((p1 &&& (7 : Int32)) - (3 : Int32))))])) rfl (hb hby at_140) _ ?_
    show Steps p.tables e below (T2.setTop (mkF m 142 #[.val (.int p0), .val (.int p1), .val (.int p2), .val (.int (2 : Int32)), .val (.ref s_UTF8), .val (.int ((own_bnd (p2 &&& (7 : Int32))) + ((p1 &&& (7 : Int32)) - (3 : Int32)))), .unset] [(.int (55296 : Int32)), (.int ((own_bnd (p2 &&& (7 : Int32))) + ((p1 &&& (7 : Int32)) - (3 : Int32))))])) _
    refine XS.icmpYes X2.here hx rfl (pc0 := 142) (pc' := 159) rfl (hb hby at_142) rfl hc_lt_55296 (by decide) (by decide) ?_
    show Steps p.tables e below (T2.setTop (mkF m 159 #[.val (.int p0), .val (.int p1), .val (.int p2), .val (.int (2 : Int32)), .val (.ref s_UTF8), .val (.int ((own_bnd (p2 &&& (7 : Int32))) + ((p1 &&& (7 : Int32)) - (3 : Int32)))), .unset] [])) _
    refine XS.iconst X2.here hx rfl (hb hby at_159) ?_
    show Steps p.tables e below (T2.setTop (mkF m 160 #[.val (.int p0), .val (.int p1), .val (.int p2), .val (.int (2 : Int32)), .val (.ref s_UTF8), .val (.int ((own_bnd (p2 &&& (7 : Int32))) + ((p1 &&& (7 : Int32)) - (3 : Int32)))), .unset] [(.int (1 : Int32))])) _
    refine XS.goto X2.here hx rfl (pc0 := 160) (pc' := 164) rfl (hb hby at_160) (by decide) (by decide) ?_
    show Steps p.tables e below (T2.setTop (mkF m 164 #[.val (.int p0), .val (.int p1), .val (.int p2), .val (.int (2 : Int32)), .val (.ref s_UTF8), .val (.int ((own_bnd (p2 &&& (7 : Int32))) + ((p1 &&& (7 : Int32)) - (3 : Int32)))), .unset] [(.int (1 : Int32))])) _
    refine XS.istore X2.here hx rfl (hb hby at_164) rfl (l' := #[.val (.int p0), .val (.int p1), .val (.int p2), .val (.int (2 : Int32)), .val (.ref s_UTF8), .val (.int ((own_bnd (p2 &&& (7 : Int32))) + ((p1 &&& (7 : Int32)) - (3 : Int32)))), .val (.int (1 : Int32))]) rfl ?_
    show Steps p.tables e below (T2.setTop (mkF m 166 #[.val (.int p0), .val (.int p1), .val (.int p2), .val (.int (2 : Int32)), .val (.ref s_UTF8), .val (.int ((own_bnd (p2 &&& (7 : Int32))) + ((p1 &&& (7 : Int32)) - (3 : Int32)))), .val (.int (1 : Int32))] [])) _
    refine XS.aload X2.here hx rfl (hb hby at_166) rfl rfl ?_
    show Steps p.tables e below (T2.setTop (mkF m 168 #[.val (.int p0), .val (.int p1), .val (.int p2), .val (.int (2 : Int32)), .val (.ref s_UTF8), .val (.int ((own_bnd (p2 &&& (7 : Int32))) + ((p1 &&& (7 : Int32)) - (3 : Int32)))), .val (.int (1 : Int32))] [(.ref s_UTF8)])) _
    refine XS.iload X2.here hx rfl (hb hby at_168) rfl ?_
    show Steps p.tables e below (T2.setTop (mkF m 170 #[.val (.int p0), .val (.int p1), .val (.int p2), .val (.int (2 : Int32)), .val (.ref s_UTF8), .val (.int ((own_bnd (p2 &&& (7 : Int32))) + ((p1 &&& (7 : Int32)) - (3 : Int32)))), .val (.int (1 : Int32))] [(.int ((own_bnd (p2 &&& (7 : Int32))) + ((p1 &&& (7 : Int32)) - (3 : Int32)))), (.ref s_UTF8)])) _
    refine st3.trans ?_
    show Steps p.tables e below (T3.setTop (mkF m 173 #[.val (.int p0), .val (.int p1), .val (.int p2), .val (.int (2 : Int32)), .val (.ref s_UTF8), .val (.int ((own_bnd (p2 &&& (7 : Int32))) + ((p1 &&& (7 : Int32)) - (3 : Int32)))), .val (.int (1 : Int32))] [(.int (1 : Int32))])) _
    refine XS.iload X3.here hx rfl (hb hby at_173) rfl ?_
    show Steps p.tables e below (T3.setTop (mkF m 175 #[.val (.int p0), .val (.int p1), .val (.int p2), .val (.int (2 : Int32)), .val (.ref s_UTF8), .val (.int ((own_bnd (p2 &&& (7 : Int32))) + ((p1 &&& (7 : Int32)) - (3 : Int32)))), .val (.int (1 : Int32))] [(.int (1 : Int32)), (.int (1 : Int32))])) _
    refine XS.icmpNo X3.here hx rfl (hb hby at_175) rfl (by decide +kernel) ?_
    show Steps p.tables e below (T3.setTop (mkF m 178 #[.val (.int p0), .val (.int p1), .val (.int p2), .val (.int (2 : Int32)), .val (.ref s_UTF8), .val (.int ((own_bnd (p2 &&& (7 : Int32))) + ((p1 &&& (7 : Int32)) - (3 : Int32)))), .val (.int (1 : Int32))] [])) _
    refine XS.iconst X3.here hx rfl (hb hby at_178) ?_
    show Steps p.tables e below (T3.setTop (mkF m 179 #[.val (.int p0), .val (.int p1), .val (.int p2), .val (.int (2 : Int32)), .val (.ref s_UTF8), .val (.int ((own_bnd (p2 &&& (7 : Int32))) + ((p1 &&& (7 : Int32)) - (3 : Int32)))), .val (.int (1 : Int32))] [(.int (1 : Int32))])) _
    refine XS.goto X3.here hx rfl (pc0 := 179) (pc' := 183) rfl (hb hby at_179) (by decide) (by decide) ?_
    show Steps p.tables e below (T3.setTop (mkF m 183 #[.val (.int p0), .val (.int p1), .val (.int p2), .val (.int (2 : Int32)), .val (.ref s_UTF8), .val (.int ((own_bnd (p2 &&& (7 : Int32))) + ((p1 &&& (7 : Int32)) - (3 : Int32)))), .val (.int (1 : Int32))] [(.int (1 : Int32))])) _
    exact retN X3 hx (t := .boolean) Bd.returns (by simp) (hb hby at_183) hr
  · exact ⟨rfl, N3, e3⟩
set_option maxRecDepth 65536 in
set_option maxHeartbeats 40000000 in
theorem r44 (l : Launch) (Z : State) (a0 : Array Value) (hw : ∀ d ∈ tables_1, d.before a0 Z = true) (ws : List Jvm.Cond) (h0 : Heap) (n0 : Nat) (s_IA5 : Addr) (s_BMP : Addr) (s_UTF8 : Addr) (K : Ctx Z h0 s_IA5 s_BMP s_UTF8) (p1 : Int32) (p2 : Int32) (hc_lt_0 : ifCond.holds .lt ((own_bnd (p2 &&& (7 : Int32))) + ((p1 &&& (7 : Int32)) - (3 : Int32))) = false) (hc_gt_1114111 : if_icmp.holds .gt ((own_bnd (p2 &&& (7 : Int32))) + ((p1 &&& (7 : Int32)) - (3 : Int32))) (1114111 : Int32) = false) (hc_lt_55296 : if_icmp.holds .lt ((own_bnd (p2 &&& (7 : Int32))) + ((p1 &&& (7 : Int32)) - (3 : Int32))) (55296 : Int32) = false) (hc_le_57343 : if_icmp.holds .le ((own_bnd (p2 &&& (7 : Int32))) + ((p1 &&& (7 : Int32)) - (3 : Int32))) (57343 : Int32) = true) :
    MetFree l (⟨"com/example/plainwire/plainwire/definitions/Repertoire", "holds", "(I)Z"⟩ : MethodName) (head1 (Jvm.Cond.code (⟨"com/example/plainwire/plainwire/definitions/Repertoire", "holds", "(I)Z"⟩ : MethodName) prog_37_method_5_code 2 (some .boolean) :: ws) ({ frames := 0, cells := 0, slots := 0, locals := 0 } : Room)) (fun a U => a = #[(.ref s_UTF8), (.int ((own_bnd (p2 &&& (7 : Int32))) + ((p1 &&& (7 : Int32)) - (3 : Int32))))] ∧ Z.Warmed39 U.vm ∧ U.heap = h0) (fun _ _ _ _ _ => True) (fun _ U o U' => ∃ v L, o = .returned v ∧ QV (.int (0 : Int32)) h0 n0 v U'.heap L ∧ FrameEnd U o U' L ({ frames := 0, cells := 0, slots := 0, locals := 0 } : Room).cells ({ frames := 0, cells := 0, slots := 0, locals := 0 } : Room).slots) := by
  obtain ⟨S_IA5, E_IA5, F_IA5_lastCodePoint, S_BMP, E_BMP, F_BMP_lastCodePoint, S_UTF8, E_UTF8, F_UTF8_lastCodePoint⟩ := id K
  refine MetFree.of_bodySF (plainFor_of_name pn1) hisR ?_
  intro p e s m args below meth c s₁ Bd hml0 hP hK
  obtain ⟨rfl, hZ, hh⟩ := hP
  have hx := Bd.exec
  have hby := Bd.bytes
  have hml : c.maxLocals = 2 := hml0
  have hown : s.vm.findClass "com/example/plainwire/plainwire/definitions/Repertoire" = some m.cls := findClass_of_methodNamed Bd.named
  have X0 : Stand p l e ({ frames := 0, cells := 0, slots := 0, locals := 0 } : Room) s m #[(.ref s_UTF8), (.int ((own_bnd (p2 &&& (7 : Int32))) + ((p1 &&& (7 : Int32)) - (3 : Int32))))] below meth c s₁ [] 0 0 := Stand.of_body Bd
  have e0 : s₁.heap = h0 := by rw [← hh, Bd.state]; rfl
  have N0 := Fr.nil n0
  have pre0 : ∀ t, Steps p.tables e below (s₁.setTop (mkF m 0 #[.val (.ref s_UTF8), .val (.int ((own_bnd (p2 &&& (7 : Int32))) + ((p1 &&& (7 : Int32)) - (3 : Int32))))] [])) t → Steps p.tables e below (s₁.setTop (entryFrame m #[(.ref s_UTF8), (.int ((own_bnd (p2 &&& (7 : Int32))) + ((p1 &&& (7 : Int32)) - (3 : Int32))))] 2)) t := fun t k => castTop (by first | (simp [entryFrame, mkF, argsToLocals, Value.category]; done) | rfl) k
  obtain ⟨T1, X1, e1, st1⟩ := getF X0 hx hZ hown (host := "") (Or.inl (hw _ (List.mem_of_getElem? (i := 14) rfl))) Via.refl e0 F_UTF8_lastCodePoint (g := (mkF m 6 #[.val (.ref s_UTF8), .val (.int ((own_bnd (p2 &&& (7 : Int32))) + ((p1 &&& (7 : Int32)) - (3 : Int32))))] [(.ref s_UTF8), (.int ((own_bnd (p2 &&& (7 : Int32))) + ((p1 &&& (7 : Int32)) - (3 : Int32))))])) rfl rfl (hb hby d1_6)
  obtain ⟨fs, hr, hrun, hended, hW, hsame⟩ := X1.leave (v := some (.int (0 : Int32))) (fun h => by rw [Bd.returns] at h; cases h)
  refine ⟨_, _, pre0 _ ?_, hrun, hended, _, _, rfl, ?_, ⟨_, rfl⟩, hW, hsame.mono (by decide) (by decide)⟩
  · show Steps p.tables e below (s₁.setTop (mkF m 0 #[.val (.ref s_UTF8), .val (.int ((own_bnd (p2 &&& (7 : Int32))) + ((p1 &&& (7 : Int32)) - (3 : Int32))))] [])) _
    refine XS.iloadN X0.here hx rfl (hb hby d1_0) rfl ?_
    show Steps p.tables e below (s₁.setTop (mkF m 1 #[.val (.ref s_UTF8), .val (.int ((own_bnd (p2 &&& (7 : Int32))) + ((p1 &&& (7 : Int32)) - (3 : Int32))))] [(.int ((own_bnd (p2 &&& (7 : Int32))) + ((p1 &&& (7 : Int32)) - (3 : Int32))))])) _
    refine XS.ifNo X0.here hx rfl (hb hby d1_1) rfl hc_lt_0 ?_
    show Steps p.tables e below (s₁.setTop (mkF m 4 #[.val (.ref s_UTF8), .val (.int ((own_bnd (p2 &&& (7 : Int32))) + ((p1 &&& (7 : Int32)) - (3 : Int32))))] [])) _
    refine XS.iloadN X0.here hx rfl (hb hby d1_4) rfl ?_
    show Steps p.tables e below (s₁.setTop (mkF m 5 #[.val (.ref s_UTF8), .val (.int ((own_bnd (p2 &&& (7 : Int32))) + ((p1 &&& (7 : Int32)) - (3 : Int32))))] [(.int ((own_bnd (p2 &&& (7 : Int32))) + ((p1 &&& (7 : Int32)) - (3 : Int32))))])) _
    refine XS.aloadN X0.here hx rfl (hb hby d1_5) rfl rfl ?_
    show Steps p.tables e below (s₁.setTop (mkF m 6 #[.val (.ref s_UTF8), .val (.int ((own_bnd (p2 &&& (7 : Int32))) + ((p1 &&& (7 : Int32)) - (3 : Int32))))] [(.ref s_UTF8), (.int ((own_bnd (p2 &&& (7 : Int32))) + ((p1 &&& (7 : Int32)) - (3 : Int32))))])) _
    refine st1 _ ?_
    show Steps p.tables e below (T1.setTop (mkF m 9 #[.val (.ref s_UTF8), .val (.int ((own_bnd (p2 &&& (7 : Int32))) + ((p1 &&& (7 : Int32)) - (3 : Int32))))] [(.int (1114111 : Int32)), (.int ((own_bnd (p2 &&& (7 : Int32))) + ((p1 &&& (7 : Int32)) - (3 : Int32))))])) _
    refine XS.icmpNo X1.here hx rfl (hb hby d1_9) rfl hc_gt_1114111 ?_
    show Steps p.tables e below (T1.setTop (mkF m 12 #[.val (.ref s_UTF8), .val (.int ((own_bnd (p2 &&& (7 : Int32))) + ((p1 &&& (7 : Int32)) - (3 : Int32))))] [])) _
    refine XS.iloadN X1.here hx rfl (hb hby d1_12) rfl ?_
    show Steps p.tables e below (T1.setTop (mkF m 13 #[.val (.ref s_UTF8), .val (.int ((own_bnd (p2 &&& (7 : Int32))) + ((p1 &&& (7 : Int32)) - (3 : Int32))))] [(.int ((own_bnd (p2 &&& (7 : Int32))) + ((p1 &&& (7 : Int32)) - (3 : Int32))))])) _
    refine X1.ldcInt hx hown (mvT hZ (hw _ (List.mem_of_getElem? (i := 21) rfl))) (g := (mkF m 13 #[.val (.ref s_UTF8), .val (.int ((own_bnd (p2 &&& (7 : Int32))) + ((p1 &&& (7 : Int32)) - (3 : Int32))))] [(.int ((own_bnd (p2 &&& (7 : Int32))) + ((p1 &&& (7 : Int32)) - (3 : Int32))))])) rfl (hb hby d1_13) _ ?_
    show Steps p.tables e below (T1.setTop (mkF m 15 #[.val (.ref s_UTF8), .val (.int ((own_bnd (p2 &&& (7 : Int32))) + ((p1 &&& (7 : Int32)) - (3 : Int32))))] [(.int (55296 : Int32)), (.int ((own_bnd (p2 &&& (7 : Int32))) + ((p1 &&& (7 : Int32)) - (3 : Int32))))])) _
    refine XS.icmpNo X1.here hx rfl (hb hby d1_15) rfl hc_lt_55296 ?_
    show Steps p.tables e below (T1.setTop (mkF m 18 #[.val (.ref s_UTF8), .val (.int ((own_bnd (p2 &&& (7 : Int32))) + ((p1 &&& (7 : Int32)) - (3 : Int32))))] [])) _
    refine XS.iloadN X1.here hx rfl (hb hby d1_18) rfl ?_
    show Steps p.tables e below (T1.setTop (mkF m 19 #[.val (.ref s_UTF8), .val (.int ((own_bnd (p2 &&& (7 : Int32))) + ((p1 &&& (7 : Int32)) - (3 : Int32))))] [(.int ((own_bnd (p2 &&& (7 : Int32))) + ((p1 &&& (7 : Int32)) - (3 : Int32))))])) _
    refine X1.ldcInt hx hown (mvT hZ (hw _ (List.mem_of_getElem? (i := 22) rfl))) (g := (mkF m 19 #[.val (.ref s_UTF8), .val (.int ((own_bnd (p2 &&& (7 : Int32))) + ((p1 &&& (7 : Int32)) - (3 : Int32))))] [(.int ((own_bnd (p2 &&& (7 : Int32))) + ((p1 &&& (7 : Int32)) - (3 : Int32))))])) rfl (hb hby d1_19) _ ?_
    show Steps p.tables e below (T1.setTop (mkF m 21 #[.val (.ref s_UTF8), .val (.int ((own_bnd (p2 &&& (7 : Int32))) + ((p1 &&& (7 : Int32)) - (3 : Int32))))] [(.int (57343 : Int32)), (.int ((own_bnd (p2 &&& (7 : Int32))) + ((p1 &&& (7 : Int32)) - (3 : Int32))))])) _
    refine XS.icmpYes X1.here hx rfl (pc0 := 21) (pc' := 28) rfl (hb hby d1_21) rfl hc_le_57343 (by decide) (by decide) ?_
    show Steps p.tables e below (T1.setTop (mkF m 28 #[.val (.ref s_UTF8), .val (.int ((own_bnd (p2 &&& (7 : Int32))) + ((p1 &&& (7 : Int32)) - (3 : Int32))))] [])) _
    refine XS.iconst X1.here hx rfl (hb hby d1_28) ?_
    show Steps p.tables e below (T1.setTop (mkF m 29 #[.val (.ref s_UTF8), .val (.int ((own_bnd (p2 &&& (7 : Int32))) + ((p1 &&& (7 : Int32)) - (3 : Int32))))] [(.int (0 : Int32))])) _
    exact retN X1 hx (t := .boolean) Bd.returns (by simp) (hb hby d1_29) hr
  · exact ⟨rfl, N0, e1⟩
set_option maxRecDepth 65536 in
set_option maxHeartbeats 40000000 in
theorem law_k2_0_2 (l : Launch) (Z : State) (a0 : Array Value) (hw : ∀ d ∈ tables_1, d.before a0 Z = true) (ws : List Jvm.Cond) (h0 : Heap) (n0 : Nat) (s_IA5 : Addr) (s_BMP : Addr) (s_UTF8 : Addr) (K : Ctx Z h0 s_IA5 s_BMP s_UTF8) (p0 : Int32) (p1 : Int32) (p2 : Int32) (ha : ((p0 &&& (2147483647 : Int32)) % (3 : Int32)) = (2 : Int32)) (hb1 : (p2 &&& (8 : Int32)) = (0 : Int32)) (hc_lt_0 : ifCond.holds .lt ((own_bnd (p2 &&& (7 : Int32))) + ((p1 &&& (7 : Int32)) - (3 : Int32))) = false) (hc_lt_55296 : if_icmp.holds .lt ((own_bnd (p2 &&& (7 : Int32))) + ((p1 &&& (7 : Int32)) - (3 : Int32))) (55296 : Int32) = false) (hc_lt_57344 : if_icmp.holds .lt ((own_bnd (p2 &&& (7 : Int32))) + ((p1 &&& (7 : Int32)) - (3 : Int32))) (57344 : Int32) = true) (hc_gt_1114111 : if_icmp.holds .gt ((own_bnd (p2 &&& (7 : Int32))) + ((p1 &&& (7 : Int32)) - (3 : Int32))) (1114111 : Int32) = false) (hc_le_57343 : if_icmp.holds .le ((own_bnd (p2 &&& (7 : Int32))) + ((p1 &&& (7 : Int32)) - (3 : Int32))) (57343 : Int32) = true) :
    MetFree l x (head1 (Jvm.Cond.code x code maxLocals ret :: ws) room_1) (fun a U => a = #[(.int p0), (.int p1), (.int p2)] ∧ Z.Warmed39 U.vm ∧ U.heap = h0) (fun _ _ _ _ _ => True) (fun _ U o U' => ∃ v L, o = .returned v ∧ QV (.int (1 : Int32)) h0 n0 v U'.heap L ∧ FrameEnd U o U' L room_1.cells room_1.slots) := by
  obtain ⟨S_IA5, E_IA5, F_IA5_lastCodePoint, S_BMP, E_BMP, F_BMP_lastCodePoint, S_UTF8, E_UTF8, F_UTF8_lastCodePoint⟩ := id K
  refine MetFree.of_bodySF (plainFor_of_name pn2) hisR ?_
  intro p e s m args below meth c s₁ Bd hml0 hP hK
  obtain ⟨rfl, hZ, hh⟩ := hP
  have hx := Bd.exec
  have hby := Bd.bytes
  have hml : c.maxLocals = 7 := hml0
  have hown : s.vm.findClass "com/example/plainwire/plainwire/definitions/RepertoireHoldsPinLaw" = some m.cls := findClass_of_methodNamed Bd.named
  have X0 : Stand p l e room_1 s m #[(.int p0), (.int p1), (.int p2)] below meth c s₁ [] 0 0 := Stand.of_body Bd
  have e0 : s₁.heap = h0 := by rw [← hh, Bd.state]; rfl
  have N0 := Fr.nil n0
  have pre0 : ∀ t, Steps p.tables e below (s₁.setTop (mkF m 0 #[.val (.int p0), .val (.int p1), .val (.int p2), .unset, .unset, .unset, .unset] [])) t → Steps p.tables e below (s₁.setTop (entryFrame m #[(.int p0), (.int p1), (.int p2)] maxLocals)) t := fun t k => castTop (by first | (simp [entryFrame, mkF, argsToLocals, Value.category, maxLocals]; done) | rfl) k
  obtain ⟨T1, X1, e1, st1⟩ := getS X0 hx hZ hown (host := "") (hw _ (List.mem_of_getElem? (i := 23) rfl)) Via.refl e0 S_UTF8 (g := (mkF m 32 #[.val (.int p0), .val (.int p1), .val (.int p2), .val (.int (2 : Int32)), .unset, .unset, .unset] [])) rfl (hb hby at_32)
  obtain ⟨_, _, ⟨T2, L2, k2, n2⟩, -, X2, ⟨Lc2, hQ2, l2, y2, z2⟩, st2⟩ := Jvm.LawKit.callS X1 hx (y := (⟨"com/example/plainwire/plainwire/definitions/RepertoireHoldsPinLaw", "boundary", "(I)I"⟩ : MethodName)) hown (mvT hZ (hw _ (List.mem_of_getElem? (i := 4) rfl))) (mvT hZ (hw _ (List.mem_of_getElem? (i := 5) rfl))) (mvT hZ (hw _ (List.mem_of_getElem? (i := 6) rfl))) (mvT hZ (hw _ (List.mem_of_getElem? (i := 7) rfl))) (by decide) (backOf (W := 0) (own_bndK l Z a0 hw [] h0 n0 s_IA5 s_BMP s_UTF8 K (p2 &&& (7 : Int32)) (own_and8 p2)) hZ (hw _ (List.mem_of_getElem? (i := 7) rfl)) (hw _ (List.mem_of_getElem? (i := 6) rfl)) (by decide) (by decide)) (g := (mkF m 54 #[.val (.int p0), .val (.int p1), .val (.int p2), .val (.int (2 : Int32)), .val (.ref s_UTF8), .unset, .unset] [(.int (p2 &&& (7 : Int32)))])) rfl (by rw [hml]; rfl) (argsL := [(.int (p2 &&& (7 : Int32)))]) (rest := []) (lenOf pd0 rfl) rfl (by show 2 * 0 + _ ≤ _; exact Nat.le_of_eq rfl) (hb hby at_54) (fun _ _ => ⟨rfl, e1, (by decide : 0 + 0 ≤ _), (by decide : 0 + 0 ≤ _)⟩)
  dsimp only [Pt.U, Pt.locs, Pt.cells, Pt.slots] at X2 l2 y2 z2 st2 hQ2
  subst l2 y2 z2
  obtain ⟨rfl, N2q, e2⟩ := hQ2
  have N2 := Fr.app N0 N2q
  obtain ⟨cq3, kq3, q3a, q3b, q3c⟩ := isOf hZ e2 E_UTF8
  obtain ⟨_, _, ⟨T3, L3, k3, n3⟩, -, X3, ⟨Lc3, hQ3, l3, y3, z3⟩, st3⟩ := X2.virtualBack hx (y := (⟨"com/example/plainwire/plainwire/definitions/Repertoire", "holds", "(I)Z"⟩ : MethodName)) (z := (⟨"com/example/plainwire/plainwire/definitions/Repertoire", "holds", "(I)Z"⟩ : MethodName)) hown (mvT hZ (hw _ (List.mem_of_getElem? (i := 9) rfl))) (mvT hZ (hw _ (List.mem_of_getElem? (i := 10) rfl))) (notFace_of_selects (args := #[]) (mvT hZ (hw _ (List.mem_of_getElem? (i := 12) rfl)))) (mvT hZ (hw _ (List.mem_of_getElem? (i := 12) rfl))) (mvT hZ (hw _ (List.mem_of_getElem? (i := 11) rfl))) (by decide) (backOf (W := 0) (r44 l Z a0 hw [] h0 n0 s_IA5 s_BMP s_UTF8 K p1 p2 hc_lt_0 hc_gt_1114111 hc_lt_55296 hc_le_57343) hZ (hw _ (List.mem_of_getElem? (i := 13) rfl)) (hw _ (List.mem_of_getElem? (i := 2) rfl)) (by decide) (by decide)) q3a q3c (g := (mkF m 170 #[.val (.int p0), .val (.int p1), .val (.int p2), .val (.int (2 : Int32)), .val (.ref s_UTF8), .val (.int ((own_bnd (p2 &&& (7 : Int32))) + ((p1 &&& (7 : Int32)) - (3 : Int32)))), .val (.int (0 : Int32))] [(.int ((own_bnd (p2 &&& (7 : Int32))) + ((p1 &&& (7 : Int32)) - (3 : Int32)))), (.ref s_UTF8)])) rfl (by rw [hml]; rfl) (Steps.refl _) (argsL := [(.int ((own_bnd (p2 &&& (7 : Int32))) + ((p1 &&& (7 : Int32)) - (3 : Int32))))]) (rest := []) (lenOf pd1 rfl) rfl (by show 2 * 0 + _ ≤ _; exact Nat.le_of_eq rfl) (hb hby at_170) (fun _ _ => ⟨rfl, e2, (by decide : 0 + 0 ≤ _), (by decide : 0 + 0 ≤ _)⟩)
  dsimp only [Pt.U, Pt.locs, Pt.cells, Pt.slots] at X3 l3 y3 z3 st3 hQ3
  subst l3 y3 z3
  obtain ⟨rfl, N3q, e3⟩ := hQ3
  have N3 := Fr.app N2 N3q
  obtain ⟨fs, hr, hrun, hended, hW, hsame⟩ := X3.leave (v := some (.int (1 : Int32))) (fun h => by rw [Bd.returns] at h; cases h)
  refine ⟨_, _, pre0 _ ?_, hrun, hended, _, _, rfl, ?_, ⟨_, rfl⟩, hW, hsame.mono (by decide) (by decide)⟩
  · show Steps p.tables e below (s₁.setTop (mkF m 0 #[.val (.int p0), .val (.int p1), .val (.int p2), .unset, .unset, .unset, .unset] [])) _
    refine XS.iloadN X0.here hx rfl (hb hby at_0) rfl ?_
    show Steps p.tables e below (s₁.setTop (mkF m 1 #[.val (.int p0), .val (.int p1), .val (.int p2), .unset, .unset, .unset, .unset] [(.int p0)])) _
    refine X0.ldcInt hx hown (mvT hZ (hw _ (List.mem_of_getElem? (i := 0) rfl))) (g := (mkF m 1 #[.val (.int p0), .val (.int p1), .val (.int p2), .unset, .unset, .unset, .unset] [(.int p0)])) rfl (hb hby at_1) _ ?_
    show Steps p.tables e below (s₁.setTop (mkF m 3 #[.val (.int p0), .val (.int p1), .val (.int p2), .unset, .unset, .unset, .unset] [(.int (2147483647 : Int32)), (.int p0)])) _
    refine XS.iand X0.here hx rfl (hb hby at_3) rfl ?_
    show Steps p.tables e below (s₁.setTop (mkF m 4 #[.val (.int p0), .val (.int p1), .val (.int p2), .unset, .unset, .unset, .unset] [(.int (p0 &&& (2147483647 : Int32)))])) _
    refine XS.iconst X0.here hx rfl (hb hby at_4) ?_
    show Steps p.tables e below (s₁.setTop (mkF m 5 #[.val (.int p0), .val (.int p1), .val (.int p2), .unset, .unset, .unset, .unset] [(.int (3 : Int32)), (.int (p0 &&& (2147483647 : Int32)))])) _
    refine Jvm.RoadKit.iremM X0 hx rfl (hb hby at_5) rfl (by decide) ?_
    show Steps p.tables e below (s₁.setTop (mkF m 6 #[.val (.int p0), .val (.int p1), .val (.int p2), .unset, .unset, .unset, .unset] [(.int ((p0 &&& (2147483647 : Int32)) % (3 : Int32)))])) _
    rw [ha]
    show Steps p.tables e below (s₁.setTop (mkF m 6 #[.val (.int p0), .val (.int p1), .val (.int p2), .unset, .unset, .unset, .unset] [(.int (2 : Int32))])) _
    refine XS.istoreN X0.here hx rfl (hb hby at_6) rfl (l' := #[.val (.int p0), .val (.int p1), .val (.int p2), .val (.int (2 : Int32)), .unset, .unset, .unset]) rfl ?_
    show Steps p.tables e below (s₁.setTop (mkF m 7 #[.val (.int p0), .val (.int p1), .val (.int p2), .val (.int (2 : Int32)), .unset, .unset, .unset] [])) _
    refine XS.iloadN X0.here hx rfl (hb hby at_7) rfl ?_
    show Steps p.tables e below (s₁.setTop (mkF m 8 #[.val (.int p0), .val (.int p1), .val (.int p2), .val (.int (2 : Int32)), .unset, .unset, .unset] [(.int (2 : Int32))])) _
    refine XS.ifYes X0.here hx rfl (pc0 := 8) (pc' := 19) rfl (hb hby at_8) rfl (by decide +kernel) (by decide) (by decide) ?_
    show Steps p.tables e below (s₁.setTop (mkF m 19 #[.val (.int p0), .val (.int p1), .val (.int p2), .val (.int (2 : Int32)), .unset, .unset, .unset] [])) _
    refine XS.iloadN X0.here hx rfl (hb hby at_19) rfl ?_
    show Steps p.tables e below (s₁.setTop (mkF m 20 #[.val (.int p0), .val (.int p1), .val (.int p2), .val (.int (2 : Int32)), .unset, .unset, .unset] [(.int (2 : Int32))])) _
    refine XS.iconst X0.here hx rfl (hb hby at_20) ?_
    show Steps p.tables e below (s₁.setTop (mkF m 21 #[.val (.int p0), .val (.int p1), .val (.int p2), .val (.int (2 : Int32)), .unset, .unset, .unset] [(.int (1 : Int32)), (.int (2 : Int32))])) _
    refine XS.icmpYes X0.here hx rfl (pc0 := 21) (pc' := 32) rfl (hb hby at_21) rfl (by decide +kernel) (by decide) (by decide) ?_
    show Steps p.tables e below (s₁.setTop (mkF m 32 #[.val (.int p0), .val (.int p1), .val (.int p2), .val (.int (2 : Int32)), .unset, .unset, .unset] [])) _
    refine st1 _ ?_
    show Steps p.tables e below (T1.setTop (mkF m 35 #[.val (.int p0), .val (.int p1), .val (.int p2), .val (.int (2 : Int32)), .unset, .unset, .unset] [(.ref s_UTF8)])) _
    refine XS.astore X1.here hx rfl (hb hby at_35) rfl rfl (l' := #[.val (.int p0), .val (.int p1), .val (.int p2), .val (.int (2 : Int32)), .val (.ref s_UTF8), .unset, .unset]) rfl ?_
    show Steps p.tables e below (T1.setTop (mkF m 37 #[.val (.int p0), .val (.int p1), .val (.int p2), .val (.int (2 : Int32)), .val (.ref s_UTF8), .unset, .unset] [])) _
    refine XS.iloadN X1.here hx rfl (hb hby at_37) rfl ?_
    show Steps p.tables e below (T1.setTop (mkF m 38 #[.val (.int p0), .val (.int p1), .val (.int p2), .val (.int (2 : Int32)), .val (.ref s_UTF8), .unset, .unset] [(.int p2)])) _
    refine XS.bipush X1.here hx rfl (hb hby at_38) ?_
    show Steps p.tables e below (T1.setTop (mkF m 40 #[.val (.int p0), .val (.int p1), .val (.int p2), .val (.int (2 : Int32)), .val (.ref s_UTF8), .unset, .unset] [(.int (8 : Int32)), (.int p2)])) _
    refine XS.iand X1.here hx rfl (hb hby at_40) rfl ?_
    show Steps p.tables e below (T1.setTop (mkF m 41 #[.val (.int p0), .val (.int p1), .val (.int p2), .val (.int (2 : Int32)), .val (.ref s_UTF8), .unset, .unset] [(.int (p2 &&& (8 : Int32)))])) _
    rw [hb1]
    show Steps p.tables e below (T1.setTop (mkF m 41 #[.val (.int p0), .val (.int p1), .val (.int p2), .val (.int (2 : Int32)), .val (.ref s_UTF8), .unset, .unset] [(.int (0 : Int32))])) _
    refine XS.ifYes X1.here hx rfl (pc0 := 41) (pc' := 50) rfl (hb hby at_41) rfl (by decide +kernel) (by decide) (by decide) ?_
    show Steps p.tables e below (T1.setTop (mkF m 50 #[.val (.int p0), .val (.int p1), .val (.int p2), .val (.int (2 : Int32)), .val (.ref s_UTF8), .unset, .unset] [])) _
    refine XS.iloadN X1.here hx rfl (hb hby at_50) rfl ?_
    show Steps p.tables e below (T1.setTop (mkF m 51 #[.val (.int p0), .val (.int p1), .val (.int p2), .val (.int (2 : Int32)), .val (.ref s_UTF8), .unset, .unset] [(.int p2)])) _
    refine XS.bipush X1.here hx rfl (hb hby at_51) ?_
    show Steps p.tables e below (T1.setTop (mkF m 53 #[.val (.int p0), .val (.int p1), .val (.int p2), .val (.int (2 : Int32)), .val (.ref s_UTF8), .unset, .unset] [(.int (7 : Int32)), (.int p2)])) _
    refine XS.iand X1.here hx rfl (hb hby at_53) rfl ?_
    show Steps p.tables e below (T1.setTop (mkF m 54 #[.val (.int p0), .val (.int p1), .val (.int p2), .val (.int (2 : Int32)), .val (.ref s_UTF8), .unset, .unset] [(.int (p2 &&& (7 : Int32)))])) _
    refine st2 _ ?_
    show Steps p.tables e below (T2.setTop (mkF m 57 #[.val (.int p0), .val (.int p1), .val (.int p2), .val (.int (2 : Int32)), .val (.ref s_UTF8), .unset, .unset] [(.int (own_bnd (p2 &&& (7 : Int32))))])) _
    refine XS.iloadN X2.here hx rfl (hb hby at_57) rfl ?_
    show Steps p.tables e below (T2.setTop (mkF m 58 #[.val (.int p0), .val (.int p1), .val (.int p2), .val (.int (2 : Int32)), .val (.ref s_UTF8), .unset, .unset] [(.int p1), (.int (own_bnd (p2 &&& (7 : Int32))))])) _
    refine XS.bipush X2.here hx rfl (hb hby at_58) ?_
    show Steps p.tables e below (T2.setTop (mkF m 60 #[.val (.int p0), .val (.int p1), .val (.int p2), .val (.int (2 : Int32)), .val (.ref s_UTF8), .unset, .unset] [(.int (7 : Int32)), (.int p1), (.int (own_bnd (p2 &&& (7 : Int32))))])) _
    refine XS.iand X2.here hx rfl (hb hby at_60) rfl ?_
    show Steps p.tables e below (T2.setTop (mkF m 61 #[.val (.int p0), .val (.int p1), .val (.int p2), .val (.int (2 : Int32)), .val (.ref s_UTF8), .unset, .unset] [(.int (p1 &&& (7 : Int32))), (.int (own_bnd (p2 &&& (7 : Int32))))])) _
    refine XS.iconst X2.here hx rfl (hb hby at_61) ?_
    show Steps p.tables e below (T2.setTop (mkF m 62 #[.val (.int p0), .val (.int p1), .val (.int p2), .val (.int (2 : Int32)), .val (.ref s_UTF8), .unset, .unset] [(.int (3 : Int32)), (.int (p1 &&& (7 : Int32))), (.int (own_bnd (p2 &&& (7 : Int32))))])) _
    refine XS.isub X2.here hx rfl (hb hby at_62) rfl ?_
    show Steps p.tables e below (T2.setTop (mkF m 63 #[.val (.int p0), .val (.int p1), .val (.int p2), .val (.int (2 : Int32)), .val (.ref s_UTF8), .unset, .unset] [(.int ((p1 &&& (7 : Int32)) - (3 : Int32))), (.int (own_bnd (p2 &&& (7 : Int32))))])) _
    refine XS.iadd X2.here hx rfl (hb hby at_63) rfl ?_
    show Steps p.tables e below (T2.setTop (mkF m 64 #[.val (.int p0), .val (.int p1), .val (.int p2), .val (.int (2 : Int32)), .val (.ref s_UTF8), .unset, .unset] [(.int ((own_bnd (p2 &&& (7 : Int32))) + ((p1 &&& (7 : Int32)) - (3 : Int32))))])) _
    refine XS.istore X2.here hx rfl (hb hby at_64) rfl (l' := #[.val (.int p0), .val (.int p1), .val (.int p2), .val (.int (2 : Int32)), .val (.ref s_UTF8), .val (.int ((own_bnd (p2 &&& (7 : Int32))) + ((p1 &&& (7 : Int32)) - (3 : Int32)))), .unset]) rfl ?_
    show Steps p.tables e below (T2.setTop (mkF m 66 #[.val (.int p0), .val (.int p1), .val (.int p2), .val (.int (2 : Int32)), .val (.ref s_UTF8), .val (.int ((own_bnd (p2 &&& (7 : Int32))) + ((p1 &&& (7 : Int32)) - (3 : Int32)))), .unset] [])) _
    refine XS.iloadN X2.here hx rfl (hb hby at_66) rfl ?_
    show Steps p.tables e below (T2.setTop (mkF m 67 #[.val (.int p0), .val (.int p1), .val (.int p2), .val (.int (2 : Int32)), .val (.ref s_UTF8), .val (.int ((own_bnd (p2 &&& (7 : Int32))) + ((p1 &&& (7 : Int32)) - (3 : Int32)))), .unset] [(.int (2 : Int32))])) _
    refine XS.ifYes X2.here hx rfl (pc0 := 67) (pc' := 92) rfl (hb hby at_67) rfl (by decide +kernel) (by decide) (by decide) ?_
    show Steps p.tables e below (T2.setTop (mkF m 92 #[.val (.int p0), .val (.int p1), .val (.int p2), .val (.int (2 : Int32)), .val (.ref s_UTF8), .val (.int ((own_bnd (p2 &&& (7 : Int32))) + ((p1 &&& (7 : Int32)) - (3 : Int32)))), .unset] [])) _
    refine XS.iloadN X2.here hx rfl (hb hby at_92) rfl ?_
    show Steps p.tables e below (T2.setTop (mkF m 93 #[.val (.int p0), .val (.int p1), .val (.int p2), .val (.int (2 : Int32)), .val (.ref s_UTF8), .val (.int ((own_bnd (p2 &&& (7 : Int32))) + ((p1 &&& (7 : Int32)) - (3 : Int32)))), .unset] [(.int (2 : Int32))])) _
    refine XS.iconst X2.here hx rfl (hb hby at_93) ?_
    show Steps p.tables e below (T2.setTop (mkF m 94 #[.val (.int p0), .val (.int p1), .val (.int p2), .val (.int (2 : Int32)), .val (.ref s_UTF8), .val (.int ((own_bnd (p2 &&& (7 : Int32))) + ((p1 &&& (7 : Int32)) - (3 : Int32)))), .unset] [(.int (1 : Int32)), (.int (2 : Int32))])) _
    refine XS.icmpYes X2.here hx rfl (pc0 := 94) (pc' := 133) rfl (hb hby at_94) rfl (by decide +kernel) (by decide) (by decide) ?_
    show Steps p.tables e below (T2.setTop (mkF m 133 #[.val (.int p0), .val (.int p1), .val (.int p2), .val (.int (2 : Int32)), .val (.ref s_UTF8), .val (.int ((own_bnd (p2 &&& (7 : Int32))) + ((p1 &&& (7 : Int32)) - (3 : Int32)))), .unset] [])) _
    refine XS.iload X2.here hx rfl (hb hby at_133) rfl ?_
    show Steps p.tables e below (T2.setTop (mkF m 135 #[.val (.int p0), .val (.int p1), .val (.int p2), .val (.int (2 : Int32)), .val (.ref s_UTF8), .val (.int ((own_bnd (p2 &&& (7 : Int32))) + ((p1 &&& (7 : Int32)) - (3 : Int32)))), .unset] [(.int ((own_bnd (p2 &&& (7 : Int32))) + ((p1 &&& (7 : Int32)) - (3 : Int32))))])) _
    refine XS.ifNo X2.here hx rfl (hb hby at_135) rfl hc_lt_0 ?_
    show Steps p.tables e below (T2.setTop (mkF m 138 #[.val (.int p0), .val (.int p1), .val (.int p2), .val (.int (2 : Int32)), .val (.ref s_UTF8), .val (.int ((own_bnd (p2 &&& (7 : Int32))) + ((p1 &&& (7 : Int32)) - (3 : Int32)))), .unset] [])) _
    refine XS.iload X2.here hx rfl (hb hby at_138) rfl ?_
    show Steps p.tables e below (T2.setTop (mkF m 140 #[.val (.int p0), .val (.int p1), .val (.int p2), .val (.int (2 : Int32)), .val (.ref s_UTF8), .val (.int ((own_bnd (p2 &&& (7 : Int32))) + ((p1 &&& (7 : Int32)) - (3 : Int32)))), .unset] [(.int ((own_bnd (p2 &&& (7 : Int32))) + ((p1 &&& (7 : Int32)) - (3 : Int32))))])) _
    refine X2.ldcInt hx hown (mvT hZ (hw _ (List.mem_of_getElem? (i := 8) rfl))) (g := (mkF m 140 #[.val (.int p0), .val (.int p1), .val (.int p2), .val (.int (2 : Int32)), .val (.ref s_UTF8), .val (.int ((own_bnd (p2 &&& (7 : Int32))) + ((p1 &&& (7 : Int32)) - (3 : Int32)))), .unset] [(.int ((own_bnd (p2 &&& (7 : Int32))) + ((p1 &&& (7 : Int32)) - (3 : Int32))))])) rfl (hb hby at_140) _ ?_
    show Steps p.tables e below (T2.setTop (mkF m 142 #[.val (.int p0), .val (.int p1), .val (.int p2), .val (.int (2 : Int32)), .val (.ref s_UTF8), .val (.int ((own_bnd (p2 &&& (7 : Int32))) + ((p1 &&& (7 : Int32)) - (3 : Int32)))), .unset] [(.int (55296 : Int32)), (.int ((own_bnd (p2 &&& (7 : Int32))) + ((p1 &&& (7 : Int32)) - (3 : Int32))))])) _
    refine XS.icmpNo X2.here hx rfl (hb hby at_142) rfl hc_lt_55296 ?_
    show Steps p.tables e below (T2.setTop (mkF m 145 #[.val (.int p0), .val (.int p1), .val (.int p2), .val (.int (2 : Int32)), .val (.ref s_UTF8), .val (.int ((own_bnd (p2 &&& (7 : Int32))) + ((p1 &&& (7 : Int32)) - (3 : Int32)))), .unset] [])) _
    refine XS.iload X2.here hx rfl (hb hby at_145) rfl ?_
    show Steps p.tables e below (T2.setTop (mkF m 147 #[.val (.int p0), .val (.int p1), .val (.int p2), .val (.int (2 : Int32)), .val (.ref s_UTF8), .val (.int ((own_bnd (p2 &&& (7 : Int32))) + ((p1 &&& (7 : Int32)) - (3 : Int32)))), .unset] [(.int ((own_bnd (p2 &&& (7 : Int32))) + ((p1 &&& (7 : Int32)) - (3 : Int32))))])) _
    refine X2.ldcInt hx hown (mvT hZ (hw _ (List.mem_of_getElem? (i := 19) rfl))) (g := (mkF m 147 #[.val (.int p0), .val (.int p1), .val (.int p2), .val (.int (2 : Int32)), .val (.ref s_UTF8), .val (.int ((own_bnd (p2 &&& (7 : Int32))) + ((p1 &&& (7 : Int32)) - (3 : Int32)))), .unset] [(.int ((own_bnd (p2 &&& (7 : Int32))) + ((p1 &&& (7 : Int32)) - (3 : Int32))))])) rfl (hb hby at_147) _ ?_
    show Steps p.tables e below (T2.setTop (mkF m 149 #[.val (.int p0), .val (.int p1), .val (.int p2), .val (.int (2 : Int32)), .val (.ref s_UTF8), .val (.int ((own_bnd (p2 &&& (7 : Int32))) + ((p1 &&& (7 : Int32)) - (3 : Int32)))), .unset] [(.int (57344 : Int32)), (.int ((own_bnd (p2 &&& (7 : Int32))) + ((p1 &&& (7 : Int32)) - (3 : Int32))))])) _
    refine XS.icmpYes X2.here hx rfl (pc0 := 149) (pc' := 163) rfl (hb hby at_149) rfl hc_lt_57344 (by decide) (by decide) ?_
    show Steps p.tables e below (T2.setTop (mkF m 163 #[.val (.int p0), .val (.int p1), .val (.int p2), .val (.int (2 : Int32)), .val (.ref s_UTF8), .val (.int ((own_bnd (p2 &&& (7 : Int32))) + ((p1 &&& (7 : Int32)) - (3 : Int32)))), .unset] [])) _
    refine XS.iconst X2.here hx rfl (hb hby at_163) ?_
    show Steps p.tables e below (T2.setTop (mkF m 164 #[.val (.int p0), .val (.int p1), .val (.int p2), .val (.int (2 : Int32)), .val (.ref s_UTF8), .val (.int ((own_bnd (p2 &&& (7 : Int32))) + ((p1 &&& (7 : Int32)) - (3 : Int32)))), .unset] [(.int (0 : Int32))])) _
    refine XS.istore X2.here hx rfl (hb hby at_164) rfl (l' := #[.val (.int p0), .val (.int p1), .val (.int p2), .val (.int (2 : Int32)), .val (.ref s_UTF8), .val (.int ((own_bnd (p2 &&& (7 : Int32))) + ((p1 &&& (7 : Int32)) - (3 : Int32)))), .val (.int (0 : Int32))]) rfl ?_
    show Steps p.tables e below (T2.setTop (mkF m 166 #[.val (.int p0), .val (.int p1), .val (.int p2), .val (.int (2 : Int32)), .val (.ref s_UTF8), .val (.int ((own_bnd (p2 &&& (7 : Int32))) + ((p1 &&& (7 : Int32)) - (3 : Int32)))), .val (.int (0 : Int32))] [])) _
    refine XS.aload X2.here hx rfl (hb hby at_166) rfl rfl ?_
    show Steps p.tables e below (T2.setTop (mkF m 168 #[.val (.int p0), .val (.int p1), .val (.int p2), .val (.int (2 : Int32)), .val (.ref s_UTF8), .val (.int ((own_bnd (p2 &&& (7 : Int32))) + ((p1 &&& (7 : Int32)) - (3 : Int32)))), .val (.int (0 : Int32))] [(.ref s_UTF8)])) _
    refine XS.iload X2.here hx rfl (hb hby at_168) rfl ?_
    show Steps p.tables e below (T2.setTop (mkF m 170 #[.val (.int p0), .val (.int p1), .val (.int p2), .val (.int (2 : Int32)), .val (.ref s_UTF8), .val (.int ((own_bnd (p2 &&& (7 : Int32))) + ((p1 &&& (7 : Int32)) - (3 : Int32)))), .val (.int (0 : Int32))] [(.int ((own_bnd (p2 &&& (7 : Int32))) + ((p1 &&& (7 : Int32)) - (3 : Int32)))), (.ref s_UTF8)])) _
    refine st3.trans ?_
    show Steps p.tables e below (T3.setTop (mkF m 173 #[.val (.int p0), .val (.int p1), .val (.int p2), .val (.int (2 : Int32)), .val (.ref s_UTF8), .val (.int ((own_bnd (p2 &&& (7 : Int32))) + ((p1 &&& (7 : Int32)) - (3 : Int32)))), .val (.int (0 : Int32))] [(.int (0 : Int32))])) _
    refine XS.iload X3.here hx rfl (hb hby at_173) rfl ?_
    show Steps p.tables e below (T3.setTop (mkF m 175 #[.val (.int p0), .val (.int p1), .val (.int p2), .val (.int (2 : Int32)), .val (.ref s_UTF8), .val (.int ((own_bnd (p2 &&& (7 : Int32))) + ((p1 &&& (7 : Int32)) - (3 : Int32)))), .val (.int (0 : Int32))] [(.int (0 : Int32)), (.int (0 : Int32))])) _
    refine XS.icmpNo X3.here hx rfl (hb hby at_175) rfl (by decide +kernel) ?_
    show Steps p.tables e below (T3.setTop (mkF m 178 #[.val (.int p0), .val (.int p1), .val (.int p2), .val (.int (2 : Int32)), .val (.ref s_UTF8), .val (.int ((own_bnd (p2 &&& (7 : Int32))) + ((p1 &&& (7 : Int32)) - (3 : Int32)))), .val (.int (0 : Int32))] [])) _
    refine XS.iconst X3.here hx rfl (hb hby at_178) ?_
    show Steps p.tables e below (T3.setTop (mkF m 179 #[.val (.int p0), .val (.int p1), .val (.int p2), .val (.int (2 : Int32)), .val (.ref s_UTF8), .val (.int ((own_bnd (p2 &&& (7 : Int32))) + ((p1 &&& (7 : Int32)) - (3 : Int32)))), .val (.int (0 : Int32))] [(.int (1 : Int32))])) _
    refine XS.goto X3.here hx rfl (pc0 := 179) (pc' := 183) rfl (hb hby at_179) (by decide) (by decide) ?_
    show Steps p.tables e below (T3.setTop (mkF m 183 #[.val (.int p0), .val (.int p1), .val (.int p2), .val (.int (2 : Int32)), .val (.ref s_UTF8), .val (.int ((own_bnd (p2 &&& (7 : Int32))) + ((p1 &&& (7 : Int32)) - (3 : Int32)))), .val (.int (0 : Int32))] [(.int (1 : Int32))])) _
    exact retN X3 hx (t := .boolean) Bd.returns (by simp) (hb hby at_183) hr
  · exact ⟨rfl, N3, e3⟩
set_option maxRecDepth 65536 in
set_option maxHeartbeats 40000000 in
theorem r46 (l : Launch) (Z : State) (a0 : Array Value) (hw : ∀ d ∈ tables_1, d.before a0 Z = true) (ws : List Jvm.Cond) (h0 : Heap) (n0 : Nat) (s_IA5 : Addr) (s_BMP : Addr) (s_UTF8 : Addr) (K : Ctx Z h0 s_IA5 s_BMP s_UTF8) (p1 : Int32) (p2 : Int32) (hc_lt_0 : ifCond.holds .lt ((own_bnd (p2 &&& (7 : Int32))) + ((p1 &&& (7 : Int32)) - (3 : Int32))) = false) (hc_gt_1114111 : if_icmp.holds .gt ((own_bnd (p2 &&& (7 : Int32))) + ((p1 &&& (7 : Int32)) - (3 : Int32))) (1114111 : Int32) = false) (hc_lt_55296 : if_icmp.holds .lt ((own_bnd (p2 &&& (7 : Int32))) + ((p1 &&& (7 : Int32)) - (3 : Int32))) (55296 : Int32) = false) (hc_le_57343 : if_icmp.holds .le ((own_bnd (p2 &&& (7 : Int32))) + ((p1 &&& (7 : Int32)) - (3 : Int32))) (57343 : Int32) = false) :
    MetFree l (⟨"com/example/plainwire/plainwire/definitions/Repertoire", "holds", "(I)Z"⟩ : MethodName) (head1 (Jvm.Cond.code (⟨"com/example/plainwire/plainwire/definitions/Repertoire", "holds", "(I)Z"⟩ : MethodName) prog_37_method_5_code 2 (some .boolean) :: ws) ({ frames := 0, cells := 0, slots := 0, locals := 0 } : Room)) (fun a U => a = #[(.ref s_UTF8), (.int ((own_bnd (p2 &&& (7 : Int32))) + ((p1 &&& (7 : Int32)) - (3 : Int32))))] ∧ Z.Warmed39 U.vm ∧ U.heap = h0) (fun _ _ _ _ _ => True) (fun _ U o U' => ∃ v L, o = .returned v ∧ QV (.int (1 : Int32)) h0 n0 v U'.heap L ∧ FrameEnd U o U' L ({ frames := 0, cells := 0, slots := 0, locals := 0 } : Room).cells ({ frames := 0, cells := 0, slots := 0, locals := 0 } : Room).slots) := by
  obtain ⟨S_IA5, E_IA5, F_IA5_lastCodePoint, S_BMP, E_BMP, F_BMP_lastCodePoint, S_UTF8, E_UTF8, F_UTF8_lastCodePoint⟩ := id K
  refine MetFree.of_bodySF (plainFor_of_name pn1) hisR ?_
  intro p e s m args below meth c s₁ Bd hml0 hP hK
  obtain ⟨rfl, hZ, hh⟩ := hP
  have hx := Bd.exec
  have hby := Bd.bytes
  have hml : c.maxLocals = 2 := hml0
  have hown : s.vm.findClass "com/example/plainwire/plainwire/definitions/Repertoire" = some m.cls := findClass_of_methodNamed Bd.named
  have X0 : Stand p l e ({ frames := 0, cells := 0, slots := 0, locals := 0 } : Room) s m #[(.ref s_UTF8), (.int ((own_bnd (p2 &&& (7 : Int32))) + ((p1 &&& (7 : Int32)) - (3 : Int32))))] below meth c s₁ [] 0 0 := Stand.of_body Bd
  have e0 : s₁.heap = h0 := by rw [← hh, Bd.state]; rfl
  have N0 := Fr.nil n0
  have pre0 : ∀ t, Steps p.tables e below (s₁.setTop (mkF m 0 #[.val (.ref s_UTF8), .val (.int ((own_bnd (p2 &&& (7 : Int32))) + ((p1 &&& (7 : Int32)) - (3 : Int32))))] [])) t → Steps p.tables e below (s₁.setTop (entryFrame m #[(.ref s_UTF8), (.int ((own_bnd (p2 &&& (7 : Int32))) + ((p1 &&& (7 : Int32)) - (3 : Int32))))] 2)) t := fun t k => castTop (by first | (simp [entryFrame, mkF, argsToLocals, Value.category]; done) | rfl) k
  obtain ⟨T1, X1, e1, st1⟩ := getF X0 hx hZ hown (host := "") (Or.inl (hw _ (List.mem_of_getElem? (i := 14) rfl))) Via.refl e0 F_UTF8_lastCodePoint (g := (mkF m 6 #[.val (.ref s_UTF8), .val (.int ((own_bnd (p2 &&& (7 : Int32))) + ((p1 &&& (7 : Int32)) - (3 : Int32))))] [(.ref s_UTF8), (.int ((own_bnd (p2 &&& (7 : Int32))) + ((p1 &&& (7 : Int32)) - (3 : Int32))))])) rfl rfl (hb hby d1_6)
  obtain ⟨fs, hr, hrun, hended, hW, hsame⟩ := X1.leave (v := some (.int (1 : Int32))) (fun h => by rw [Bd.returns] at h; cases h)
  refine ⟨_, _, pre0 _ ?_, hrun, hended, _, _, rfl, ?_, ⟨_, rfl⟩, hW, hsame.mono (by decide) (by decide)⟩
  · show Steps p.tables e below (s₁.setTop (mkF m 0 #[.val (.ref s_UTF8), .val (.int ((own_bnd (p2 &&& (7 : Int32))) + ((p1 &&& (7 : Int32)) - (3 : Int32))))] [])) _
    refine XS.iloadN X0.here hx rfl (hb hby d1_0) rfl ?_
    show Steps p.tables e below (s₁.setTop (mkF m 1 #[.val (.ref s_UTF8), .val (.int ((own_bnd (p2 &&& (7 : Int32))) + ((p1 &&& (7 : Int32)) - (3 : Int32))))] [(.int ((own_bnd (p2 &&& (7 : Int32))) + ((p1 &&& (7 : Int32)) - (3 : Int32))))])) _
    refine XS.ifNo X0.here hx rfl (hb hby d1_1) rfl hc_lt_0 ?_
    show Steps p.tables e below (s₁.setTop (mkF m 4 #[.val (.ref s_UTF8), .val (.int ((own_bnd (p2 &&& (7 : Int32))) + ((p1 &&& (7 : Int32)) - (3 : Int32))))] [])) _
    refine XS.iloadN X0.here hx rfl (hb hby d1_4) rfl ?_
    show Steps p.tables e below (s₁.setTop (mkF m 5 #[.val (.ref s_UTF8), .val (.int ((own_bnd (p2 &&& (7 : Int32))) + ((p1 &&& (7 : Int32)) - (3 : Int32))))] [(.int ((own_bnd (p2 &&& (7 : Int32))) + ((p1 &&& (7 : Int32)) - (3 : Int32))))])) _
    refine XS.aloadN X0.here hx rfl (hb hby d1_5) rfl rfl ?_
    show Steps p.tables e below (s₁.setTop (mkF m 6 #[.val (.ref s_UTF8), .val (.int ((own_bnd (p2 &&& (7 : Int32))) + ((p1 &&& (7 : Int32)) - (3 : Int32))))] [(.ref s_UTF8), (.int ((own_bnd (p2 &&& (7 : Int32))) + ((p1 &&& (7 : Int32)) - (3 : Int32))))])) _
    refine st1 _ ?_
    show Steps p.tables e below (T1.setTop (mkF m 9 #[.val (.ref s_UTF8), .val (.int ((own_bnd (p2 &&& (7 : Int32))) + ((p1 &&& (7 : Int32)) - (3 : Int32))))] [(.int (1114111 : Int32)), (.int ((own_bnd (p2 &&& (7 : Int32))) + ((p1 &&& (7 : Int32)) - (3 : Int32))))])) _
    refine XS.icmpNo X1.here hx rfl (hb hby d1_9) rfl hc_gt_1114111 ?_
    show Steps p.tables e below (T1.setTop (mkF m 12 #[.val (.ref s_UTF8), .val (.int ((own_bnd (p2 &&& (7 : Int32))) + ((p1 &&& (7 : Int32)) - (3 : Int32))))] [])) _
    refine XS.iloadN X1.here hx rfl (hb hby d1_12) rfl ?_
    show Steps p.tables e below (T1.setTop (mkF m 13 #[.val (.ref s_UTF8), .val (.int ((own_bnd (p2 &&& (7 : Int32))) + ((p1 &&& (7 : Int32)) - (3 : Int32))))] [(.int ((own_bnd (p2 &&& (7 : Int32))) + ((p1 &&& (7 : Int32)) - (3 : Int32))))])) _
    refine X1.ldcInt hx hown (mvT hZ (hw _ (List.mem_of_getElem? (i := 21) rfl))) (g := (mkF m 13 #[.val (.ref s_UTF8), .val (.int ((own_bnd (p2 &&& (7 : Int32))) + ((p1 &&& (7 : Int32)) - (3 : Int32))))] [(.int ((own_bnd (p2 &&& (7 : Int32))) + ((p1 &&& (7 : Int32)) - (3 : Int32))))])) rfl (hb hby d1_13) _ ?_
    show Steps p.tables e below (T1.setTop (mkF m 15 #[.val (.ref s_UTF8), .val (.int ((own_bnd (p2 &&& (7 : Int32))) + ((p1 &&& (7 : Int32)) - (3 : Int32))))] [(.int (55296 : Int32)), (.int ((own_bnd (p2 &&& (7 : Int32))) + ((p1 &&& (7 : Int32)) - (3 : Int32))))])) _
    refine XS.icmpNo X1.here hx rfl (hb hby d1_15) rfl hc_lt_55296 ?_
    show Steps p.tables e below (T1.setTop (mkF m 18 #[.val (.ref s_UTF8), .val (.int ((own_bnd (p2 &&& (7 : Int32))) + ((p1 &&& (7 : Int32)) - (3 : Int32))))] [])) _
    refine XS.iloadN X1.here hx rfl (hb hby d1_18) rfl ?_
    show Steps p.tables e below (T1.setTop (mkF m 19 #[.val (.ref s_UTF8), .val (.int ((own_bnd (p2 &&& (7 : Int32))) + ((p1 &&& (7 : Int32)) - (3 : Int32))))] [(.int ((own_bnd (p2 &&& (7 : Int32))) + ((p1 &&& (7 : Int32)) - (3 : Int32))))])) _
    refine X1.ldcInt hx hown (mvT hZ (hw _ (List.mem_of_getElem? (i := 22) rfl))) (g := (mkF m 19 #[.val (.ref s_UTF8), .val (.int ((own_bnd (p2 &&& (7 : Int32))) + ((p1 &&& (7 : Int32)) - (3 : Int32))))] [(.int ((own_bnd (p2 &&& (7 : Int32))) + ((p1 &&& (7 : Int32)) - (3 : Int32))))])) rfl (hb hby d1_19) _ ?_
    show Steps p.tables e below (T1.setTop (mkF m 21 #[.val (.ref s_UTF8), .val (.int ((own_bnd (p2 &&& (7 : Int32))) + ((p1 &&& (7 : Int32)) - (3 : Int32))))] [(.int (57343 : Int32)), (.int ((own_bnd (p2 &&& (7 : Int32))) + ((p1 &&& (7 : Int32)) - (3 : Int32))))])) _
    refine XS.icmpNo X1.here hx rfl (hb hby d1_21) rfl hc_le_57343 ?_
    show Steps p.tables e below (T1.setTop (mkF m 24 #[.val (.ref s_UTF8), .val (.int ((own_bnd (p2 &&& (7 : Int32))) + ((p1 &&& (7 : Int32)) - (3 : Int32))))] [])) _
    refine XS.iconst X1.here hx rfl (hb hby d1_24) ?_
    show Steps p.tables e below (T1.setTop (mkF m 25 #[.val (.ref s_UTF8), .val (.int ((own_bnd (p2 &&& (7 : Int32))) + ((p1 &&& (7 : Int32)) - (3 : Int32))))] [(.int (1 : Int32))])) _
    refine XS.goto X1.here hx rfl (pc0 := 25) (pc' := 29) rfl (hb hby d1_25) (by decide) (by decide) ?_
    show Steps p.tables e below (T1.setTop (mkF m 29 #[.val (.ref s_UTF8), .val (.int ((own_bnd (p2 &&& (7 : Int32))) + ((p1 &&& (7 : Int32)) - (3 : Int32))))] [(.int (1 : Int32))])) _
    exact retN X1 hx (t := .boolean) Bd.returns (by simp) (hb hby d1_29) hr
  · exact ⟨rfl, N0, e1⟩
set_option maxRecDepth 65536 in
set_option maxHeartbeats 40000000 in
theorem law_k2_0_3 (l : Launch) (Z : State) (a0 : Array Value) (hw : ∀ d ∈ tables_1, d.before a0 Z = true) (ws : List Jvm.Cond) (h0 : Heap) (n0 : Nat) (s_IA5 : Addr) (s_BMP : Addr) (s_UTF8 : Addr) (K : Ctx Z h0 s_IA5 s_BMP s_UTF8) (p0 : Int32) (p1 : Int32) (p2 : Int32) (ha : ((p0 &&& (2147483647 : Int32)) % (3 : Int32)) = (2 : Int32)) (hb1 : (p2 &&& (8 : Int32)) = (0 : Int32)) (hc_lt_0 : ifCond.holds .lt ((own_bnd (p2 &&& (7 : Int32))) + ((p1 &&& (7 : Int32)) - (3 : Int32))) = false) (hc_lt_55296 : if_icmp.holds .lt ((own_bnd (p2 &&& (7 : Int32))) + ((p1 &&& (7 : Int32)) - (3 : Int32))) (55296 : Int32) = false) (hc_lt_57344 : if_icmp.holds .lt ((own_bnd (p2 &&& (7 : Int32))) + ((p1 &&& (7 : Int32)) - (3 : Int32))) (57344 : Int32) = false) (hc_gt_1114111 : if_icmp.holds .gt ((own_bnd (p2 &&& (7 : Int32))) + ((p1 &&& (7 : Int32)) - (3 : Int32))) (1114111 : Int32) = false) (hc_le_57343 : if_icmp.holds .le ((own_bnd (p2 &&& (7 : Int32))) + ((p1 &&& (7 : Int32)) - (3 : Int32))) (57343 : Int32) = false) :
    MetFree l x (head1 (Jvm.Cond.code x code maxLocals ret :: ws) room_1) (fun a U => a = #[(.int p0), (.int p1), (.int p2)] ∧ Z.Warmed39 U.vm ∧ U.heap = h0) (fun _ _ _ _ _ => True) (fun _ U o U' => ∃ v L, o = .returned v ∧ QV (.int (1 : Int32)) h0 n0 v U'.heap L ∧ FrameEnd U o U' L room_1.cells room_1.slots) := by
  obtain ⟨S_IA5, E_IA5, F_IA5_lastCodePoint, S_BMP, E_BMP, F_BMP_lastCodePoint, S_UTF8, E_UTF8, F_UTF8_lastCodePoint⟩ := id K
  refine MetFree.of_bodySF (plainFor_of_name pn2) hisR ?_
  intro p e s m args below meth c s₁ Bd hml0 hP hK
  obtain ⟨rfl, hZ, hh⟩ := hP
  have hx := Bd.exec
  have hby := Bd.bytes
  have hml : c.maxLocals = 7 := hml0
  have hown : s.vm.findClass "com/example/plainwire/plainwire/definitions/RepertoireHoldsPinLaw" = some m.cls := findClass_of_methodNamed Bd.named
  have X0 : Stand p l e room_1 s m #[(.int p0), (.int p1), (.int p2)] below meth c s₁ [] 0 0 := Stand.of_body Bd
  have e0 : s₁.heap = h0 := by rw [← hh, Bd.state]; rfl
  have N0 := Fr.nil n0
  have pre0 : ∀ t, Steps p.tables e below (s₁.setTop (mkF m 0 #[.val (.int p0), .val (.int p1), .val (.int p2), .unset, .unset, .unset, .unset] [])) t → Steps p.tables e below (s₁.setTop (entryFrame m #[(.int p0), (.int p1), (.int p2)] maxLocals)) t := fun t k => castTop (by first | (simp [entryFrame, mkF, argsToLocals, Value.category, maxLocals]; done) | rfl) k
  obtain ⟨T1, X1, e1, st1⟩ := getS X0 hx hZ hown (host := "") (hw _ (List.mem_of_getElem? (i := 23) rfl)) Via.refl e0 S_UTF8 (g := (mkF m 32 #[.val (.int p0), .val (.int p1), .val (.int p2), .val (.int (2 : Int32)), .unset, .unset, .unset] [])) rfl (hb hby at_32)
  obtain ⟨_, _, ⟨T2, L2, k2, n2⟩, -, X2, ⟨Lc2, hQ2, l2, y2, z2⟩, st2⟩ := Jvm.LawKit.callS X1 hx (y := (⟨"com/example/plainwire/plainwire/definitions/RepertoireHoldsPinLaw", "boundary", "(I)I"⟩ : MethodName)) hown (mvT hZ (hw _ (List.mem_of_getElem? (i := 4) rfl))) (mvT hZ (hw _ (List.mem_of_getElem? (i := 5) rfl))) (mvT hZ (hw _ (List.mem_of_getElem? (i := 6) rfl))) (mvT hZ (hw _ (List.mem_of_getElem? (i := 7) rfl))) (by decide) (backOf (W := 0) (own_bndK l Z a0 hw [] h0 n0 s_IA5 s_BMP s_UTF8 K (p2 &&& (7 : Int32)) (own_and8 p2)) hZ (hw _ (List.mem_of_getElem? (i := 7) rfl)) (hw _ (List.mem_of_getElem? (i := 6) rfl)) (by decide) (by decide)) (g := (mkF m 54 #[.val (.int p0), .val (.int p1), .val (.int p2), .val (.int (2 : Int32)), .val (.ref s_UTF8), .unset, .unset] [(.int (p2 &&& (7 : Int32)))])) rfl (by rw [hml]; rfl) (argsL := [(.int (p2 &&& (7 : Int32)))]) (rest := []) (lenOf pd0 rfl) rfl (by show 2 * 0 + _ ≤ _; exact Nat.le_of_eq rfl) (hb hby at_54) (fun _ _ => ⟨rfl, e1, (by decide : 0 + 0 ≤ _), (by decide : 0 + 0 ≤ _)⟩)
  dsimp only [Pt.U, Pt.locs, Pt.cells, Pt.slots] at X2 l2 y2 z2 st2 hQ2
  subst l2 y2 z2
  obtain ⟨rfl, N2q, e2⟩ := hQ2
  have N2 := Fr.app N0 N2q
  obtain ⟨cq3, kq3, q3a, q3b, q3c⟩ := isOf hZ e2 E_UTF8
  obtain ⟨_, _, ⟨T3, L3, k3, n3⟩, -, X3, ⟨Lc3, hQ3, l3, y3, z3⟩, st3⟩ := X2.virtualBack hx (y := (⟨"com/example/plainwire/plainwire/definitions/Repertoire", "holds", "(I)Z"⟩ : MethodName)) (z := (⟨"com/example/plainwire/plainwire/definitions/Repertoire", "holds", "(I)Z"⟩ : MethodName)) hown (mvT hZ (hw _ (List.mem_of_getElem? (i := 9) rfl))) (mvT hZ (hw _ (List.mem_of_getElem? (i := 10) rfl))) (notFace_of_selects (args := #[]) (mvT hZ (hw _ (List.mem_of_getElem? (i := 12) rfl)))) (mvT hZ (hw _ (List.mem_of_getElem? (i := 12) rfl))) (mvT hZ (hw _ (List.mem_of_getElem? (i := 11) rfl))) (by decide) (backOf (W := 0) (r46 l Z a0 hw [] h0 n0 s_IA5 s_BMP s_UTF8 K p1 p2 hc_lt_0 hc_gt_1114111 hc_lt_55296 hc_le_57343) hZ (hw _ (List.mem_of_getElem? (i := 13) rfl)) (hw _ (List.mem_of_getElem? (i := 2) rfl)) (by decide) (by decide)) q3a q3c (g := (mkF m 170 #[.val (.int p0), .val (.int p1), .val (.int p2), .val (.int (2 : Int32)), .val (.ref s_UTF8), .val (.int ((own_bnd (p2 &&& (7 : Int32))) + ((p1 &&& (7 : Int32)) - (3 : Int32)))), .val (.int (1 : Int32))] [(.int ((own_bnd (p2 &&& (7 : Int32))) + ((p1 &&& (7 : Int32)) - (3 : Int32)))), (.ref s_UTF8)])) rfl (by rw [hml]; rfl) (Steps.refl _) (argsL := [(.int ((own_bnd (p2 &&& (7 : Int32))) + ((p1 &&& (7 : Int32)) - (3 : Int32))))]) (rest := []) (lenOf pd1 rfl) rfl (by show 2 * 0 + _ ≤ _; exact Nat.le_of_eq rfl) (hb hby at_170) (fun _ _ => ⟨rfl, e2, (by decide : 0 + 0 ≤ _), (by decide : 0 + 0 ≤ _)⟩)
  dsimp only [Pt.U, Pt.locs, Pt.cells, Pt.slots] at X3 l3 y3 z3 st3 hQ3
  subst l3 y3 z3
  obtain ⟨rfl, N3q, e3⟩ := hQ3
  have N3 := Fr.app N2 N3q
  obtain ⟨fs, hr, hrun, hended, hW, hsame⟩ := X3.leave (v := some (.int (1 : Int32))) (fun h => by rw [Bd.returns] at h; cases h)
  refine ⟨_, _, pre0 _ ?_, hrun, hended, _, _, rfl, ?_, ⟨_, rfl⟩, hW, hsame.mono (by decide) (by decide)⟩
  · show Steps p.tables e below (s₁.setTop (mkF m 0 #[.val (.int p0), .val (.int p1), .val (.int p2), .unset, .unset, .unset, .unset] [])) _
    refine XS.iloadN X0.here hx rfl (hb hby at_0) rfl ?_
    show Steps p.tables e below (s₁.setTop (mkF m 1 #[.val (.int p0), .val (.int p1), .val (.int p2), .unset, .unset, .unset, .unset] [(.int p0)])) _
    refine X0.ldcInt hx hown (mvT hZ (hw _ (List.mem_of_getElem? (i := 0) rfl))) (g := (mkF m 1 #[.val (.int p0), .val (.int p1), .val (.int p2), .unset, .unset, .unset, .unset] [(.int p0)])) rfl (hb hby at_1) _ ?_
    show Steps p.tables e below (s₁.setTop (mkF m 3 #[.val (.int p0), .val (.int p1), .val (.int p2), .unset, .unset, .unset, .unset] [(.int (2147483647 : Int32)), (.int p0)])) _
    refine XS.iand X0.here hx rfl (hb hby at_3) rfl ?_
    show Steps p.tables e below (s₁.setTop (mkF m 4 #[.val (.int p0), .val (.int p1), .val (.int p2), .unset, .unset, .unset, .unset] [(.int (p0 &&& (2147483647 : Int32)))])) _
    refine XS.iconst X0.here hx rfl (hb hby at_4) ?_
    show Steps p.tables e below (s₁.setTop (mkF m 5 #[.val (.int p0), .val (.int p1), .val (.int p2), .unset, .unset, .unset, .unset] [(.int (3 : Int32)), (.int (p0 &&& (2147483647 : Int32)))])) _
    refine Jvm.RoadKit.iremM X0 hx rfl (hb hby at_5) rfl (by decide) ?_
    show Steps p.tables e below (s₁.setTop (mkF m 6 #[.val (.int p0), .val (.int p1), .val (.int p2), .unset, .unset, .unset, .unset] [(.int ((p0 &&& (2147483647 : Int32)) % (3 : Int32)))])) _
    rw [ha]
    show Steps p.tables e below (s₁.setTop (mkF m 6 #[.val (.int p0), .val (.int p1), .val (.int p2), .unset, .unset, .unset, .unset] [(.int (2 : Int32))])) _
    refine XS.istoreN X0.here hx rfl (hb hby at_6) rfl (l' := #[.val (.int p0), .val (.int p1), .val (.int p2), .val (.int (2 : Int32)), .unset, .unset, .unset]) rfl ?_
    show Steps p.tables e below (s₁.setTop (mkF m 7 #[.val (.int p0), .val (.int p1), .val (.int p2), .val (.int (2 : Int32)), .unset, .unset, .unset] [])) _
    refine XS.iloadN X0.here hx rfl (hb hby at_7) rfl ?_
    show Steps p.tables e below (s₁.setTop (mkF m 8 #[.val (.int p0), .val (.int p1), .val (.int p2), .val (.int (2 : Int32)), .unset, .unset, .unset] [(.int (2 : Int32))])) _
    refine XS.ifYes X0.here hx rfl (pc0 := 8) (pc' := 19) rfl (hb hby at_8) rfl (by decide +kernel) (by decide) (by decide) ?_
    show Steps p.tables e below (s₁.setTop (mkF m 19 #[.val (.int p0), .val (.int p1), .val (.int p2), .val (.int (2 : Int32)), .unset, .unset, .unset] [])) _
    refine XS.iloadN X0.here hx rfl (hb hby at_19) rfl ?_
    show Steps p.tables e below (s₁.setTop (mkF m 20 #[.val (.int p0), .val (.int p1), .val (.int p2), .val (.int (2 : Int32)), .unset, .unset, .unset] [(.int (2 : Int32))])) _
    refine XS.iconst X0.here hx rfl (hb hby at_20) ?_
    show Steps p.tables e below (s₁.setTop (mkF m 21 #[.val (.int p0), .val (.int p1), .val (.int p2), .val (.int (2 : Int32)), .unset, .unset, .unset] [(.int (1 : Int32)), (.int (2 : Int32))])) _
    refine XS.icmpYes X0.here hx rfl (pc0 := 21) (pc' := 32) rfl (hb hby at_21) rfl (by decide +kernel) (by decide) (by decide) ?_
    show Steps p.tables e below (s₁.setTop (mkF m 32 #[.val (.int p0), .val (.int p1), .val (.int p2), .val (.int (2 : Int32)), .unset, .unset, .unset] [])) _
    refine st1 _ ?_
    show Steps p.tables e below (T1.setTop (mkF m 35 #[.val (.int p0), .val (.int p1), .val (.int p2), .val (.int (2 : Int32)), .unset, .unset, .unset] [(.ref s_UTF8)])) _
    refine XS.astore X1.here hx rfl (hb hby at_35) rfl rfl (l' := #[.val (.int p0), .val (.int p1), .val (.int p2), .val (.int (2 : Int32)), .val (.ref s_UTF8), .unset, .unset]) rfl ?_
    show Steps p.tables e below (T1.setTop (mkF m 37 #[.val (.int p0), .val (.int p1), .val (.int p2), .val (.int (2 : Int32)), .val (.ref s_UTF8), .unset, .unset] [])) _
    refine XS.iloadN X1.here hx rfl (hb hby at_37) rfl ?_
    show Steps p.tables e below (T1.setTop (mkF m 38 #[.val (.int p0), .val (.int p1), .val (.int p2), .val (.int (2 : Int32)), .val (.ref s_UTF8), .unset, .unset] [(.int p2)])) _
    refine XS.bipush X1.here hx rfl (hb hby at_38) ?_
    show Steps p.tables e below (T1.setTop (mkF m 40 #[.val (.int p0), .val (.int p1), .val (.int p2), .val (.int (2 : Int32)), .val (.ref s_UTF8), .unset, .unset] [(.int (8 : Int32)), (.int p2)])) _
    refine XS.iand X1.here hx rfl (hb hby at_40) rfl ?_
    show Steps p.tables e below (T1.setTop (mkF m 41 #[.val (.int p0), .val (.int p1), .val (.int p2), .val (.int (2 : Int32)), .val (.ref s_UTF8), .unset, .unset] [(.int (p2 &&& (8 : Int32)))])) _
    rw [hb1]
    show Steps p.tables e below (T1.setTop (mkF m 41 #[.val (.int p0), .val (.int p1), .val (.int p2), .val (.int (2 : Int32)), .val (.ref s_UTF8), .unset, .unset] [(.int (0 : Int32))])) _
    refine XS.ifYes X1.here hx rfl (pc0 := 41) (pc' := 50) rfl (hb hby at_41) rfl (by decide +kernel) (by decide) (by decide) ?_
    show Steps p.tables e below (T1.setTop (mkF m 50 #[.val (.int p0), .val (.int p1), .val (.int p2), .val (.int (2 : Int32)), .val (.ref s_UTF8), .unset, .unset] [])) _
    refine XS.iloadN X1.here hx rfl (hb hby at_50) rfl ?_
    show Steps p.tables e below (T1.setTop (mkF m 51 #[.val (.int p0), .val (.int p1), .val (.int p2), .val (.int (2 : Int32)), .val (.ref s_UTF8), .unset, .unset] [(.int p2)])) _
    refine XS.bipush X1.here hx rfl (hb hby at_51) ?_
    show Steps p.tables e below (T1.setTop (mkF m 53 #[.val (.int p0), .val (.int p1), .val (.int p2), .val (.int (2 : Int32)), .val (.ref s_UTF8), .unset, .unset] [(.int (7 : Int32)), (.int p2)])) _
    refine XS.iand X1.here hx rfl (hb hby at_53) rfl ?_
    show Steps p.tables e below (T1.setTop (mkF m 54 #[.val (.int p0), .val (.int p1), .val (.int p2), .val (.int (2 : Int32)), .val (.ref s_UTF8), .unset, .unset] [(.int (p2 &&& (7 : Int32)))])) _
    refine st2 _ ?_
    show Steps p.tables e below (T2.setTop (mkF m 57 #[.val (.int p0), .val (.int p1), .val (.int p2), .val (.int (2 : Int32)), .val (.ref s_UTF8), .unset, .unset] [(.int (own_bnd (p2 &&& (7 : Int32))))])) _
    refine XS.iloadN X2.here hx rfl (hb hby at_57) rfl ?_
    show Steps p.tables e below (T2.setTop (mkF m 58 #[.val (.int p0), .val (.int p1), .val (.int p2), .val (.int (2 : Int32)), .val (.ref s_UTF8), .unset, .unset] [(.int p1), (.int (own_bnd (p2 &&& (7 : Int32))))])) _
    refine XS.bipush X2.here hx rfl (hb hby at_58) ?_
    show Steps p.tables e below (T2.setTop (mkF m 60 #[.val (.int p0), .val (.int p1), .val (.int p2), .val (.int (2 : Int32)), .val (.ref s_UTF8), .unset, .unset] [(.int (7 : Int32)), (.int p1), (.int (own_bnd (p2 &&& (7 : Int32))))])) _
    refine XS.iand X2.here hx rfl (hb hby at_60) rfl ?_
    show Steps p.tables e below (T2.setTop (mkF m 61 #[.val (.int p0), .val (.int p1), .val (.int p2), .val (.int (2 : Int32)), .val (.ref s_UTF8), .unset, .unset] [(.int (p1 &&& (7 : Int32))), (.int (own_bnd (p2 &&& (7 : Int32))))])) _
    refine XS.iconst X2.here hx rfl (hb hby at_61) ?_
    show Steps p.tables e below (T2.setTop (mkF m 62 #[.val (.int p0), .val (.int p1), .val (.int p2), .val (.int (2 : Int32)), .val (.ref s_UTF8), .unset, .unset] [(.int (3 : Int32)), (.int (p1 &&& (7 : Int32))), (.int (own_bnd (p2 &&& (7 : Int32))))])) _
    refine XS.isub X2.here hx rfl (hb hby at_62) rfl ?_
    show Steps p.tables e below (T2.setTop (mkF m 63 #[.val (.int p0), .val (.int p1), .val (.int p2), .val (.int (2 : Int32)), .val (.ref s_UTF8), .unset, .unset] [(.int ((p1 &&& (7 : Int32)) - (3 : Int32))), (.int (own_bnd (p2 &&& (7 : Int32))))])) _
    refine XS.iadd X2.here hx rfl (hb hby at_63) rfl ?_
    show Steps p.tables e below (T2.setTop (mkF m 64 #[.val (.int p0), .val (.int p1), .val (.int p2), .val (.int (2 : Int32)), .val (.ref s_UTF8), .unset, .unset] [(.int ((own_bnd (p2 &&& (7 : Int32))) + ((p1 &&& (7 : Int32)) - (3 : Int32))))])) _
    refine XS.istore X2.here hx rfl (hb hby at_64) rfl (l' := #[.val (.int p0), .val (.int p1), .val (.int p2), .val (.int (2 : Int32)), .val (.ref s_UTF8), .val (.int ((own_bnd (p2 &&& (7 : Int32))) + ((p1 &&& (7 : Int32)) - (3 : Int32)))), .unset]) rfl ?_
    show Steps p.tables e below (T2.setTop (mkF m 66 #[.val (.int p0), .val (.int p1), .val (.int p2), .val (.int (2 : Int32)), .val (.ref s_UTF8), .val (.int ((own_bnd (p2 &&& (7 : Int32))) + ((p1 &&& (7 : Int32)) - (3 : Int32)))), .unset] [])) _
    refine XS.iloadN X2.here hx rfl (hb hby at_66) rfl ?_
    show Steps p.tables e below (T2.setTop (mkF m 67 #[.val (.int p0), .val (.int p1), .val (.int p2), .val (.int (2 : Int32)), .val (.ref s_UTF8), .val (.int ((own_bnd (p2 &&& (7 : Int32))) + ((p1 &&& (7 : Int32)) - (3 : Int32)))), .unset] [(.int (2 : Int32))])) _
    refine XS.ifYes X2.here hx rfl (pc0 := 67) (pc' := 92) rfl (hb hby at_67) rfl (by decide +kernel) (by decide) (by decide) ?_
    show Steps p.tables e below (T2.setTop (mkF m 92 #[.val (.int p0), .val (.int p1), .val (.int p2), .val (.int (2 : Int32)), .val (.ref s_UTF8), .val (.int ((own_bnd (p2 &&& (7 : Int32))) + ((p1 &&& (7 : Int32)) - (3 : Int32)))), .unset] [])) _
    refine XS.iloadN X2.here hx rfl (hb hby at_92) rfl ?_
    show Steps p.tables e below (T2.setTop (mkF m 93 #[.val (.int p0), .val (.int p1), .val (.int p2), .val (.int (2 : Int32)), .val (.ref s_UTF8), .val (.int ((own_bnd (p2 &&& (7 : Int32))) + ((p1 &&& (7 : Int32)) - (3 : Int32)))), .unset] [(.int (2 : Int32))])) _
    refine XS.iconst X2.here hx rfl (hb hby at_93) ?_
    show Steps p.tables e below (T2.setTop (mkF m 94 #[.val (.int p0), .val (.int p1), .val (.int p2), .val (.int (2 : Int32)), .val (.ref s_UTF8), .val (.int ((own_bnd (p2 &&& (7 : Int32))) + ((p1 &&& (7 : Int32)) - (3 : Int32)))), .unset] [(.int (1 : Int32)), (.int (2 : Int32))])) _
    refine XS.icmpYes X2.here hx rfl (pc0 := 94) (pc' := 133) rfl (hb hby at_94) rfl (by decide +kernel) (by decide) (by decide) ?_
    show Steps p.tables e below (T2.setTop (mkF m 133 #[.val (.int p0), .val (.int p1), .val (.int p2), .val (.int (2 : Int32)), .val (.ref s_UTF8), .val (.int ((own_bnd (p2 &&& (7 : Int32))) + ((p1 &&& (7 : Int32)) - (3 : Int32)))), .unset] [])) _
    refine XS.iload X2.here hx rfl (hb hby at_133) rfl ?_
    show Steps p.tables e below (T2.setTop (mkF m 135 #[.val (.int p0), .val (.int p1), .val (.int p2), .val (.int (2 : Int32)), .val (.ref s_UTF8), .val (.int ((own_bnd (p2 &&& (7 : Int32))) + ((p1 &&& (7 : Int32)) - (3 : Int32)))), .unset] [(.int ((own_bnd (p2 &&& (7 : Int32))) + ((p1 &&& (7 : Int32)) - (3 : Int32))))])) _
    refine XS.ifNo X2.here hx rfl (hb hby at_135) rfl hc_lt_0 ?_
    show Steps p.tables e below (T2.setTop (mkF m 138 #[.val (.int p0), .val (.int p1), .val (.int p2), .val (.int (2 : Int32)), .val (.ref s_UTF8), .val (.int ((own_bnd (p2 &&& (7 : Int32))) + ((p1 &&& (7 : Int32)) - (3 : Int32)))), .unset] [])) _
    refine XS.iload X2.here hx rfl (hb hby at_138) rfl ?_
    show Steps p.tables e below (T2.setTop (mkF m 140 #[.val (.int p0), .val (.int p1), .val (.int p2), .val (.int (2 : Int32)), .val (.ref s_UTF8), .val (.int ((own_bnd (p2 &&& (7 : Int32))) + ((p1 &&& (7 : Int32)) - (3 : Int32)))), .unset] [(.int ((own_bnd (p2 &&& (7 : Int32))) + ((p1 &&& (7 : Int32)) - (3 : Int32))))])) _
    refine X2.ldcInt hx hown (mvT hZ (hw _ (List.mem_of_getElem? (i := 8) rfl))) (g := (mkF m 140 #[.val (.int p0), .val (.int p1), .val (.int p2), .val (.int (2 : Int32)), .val (.ref s_UTF8), .val (.int ((own_bnd (p2 &&& (7 : Int32))) + ((p1 &&& (7 : Int32)) - (3 : Int32)))), .unset] [(.int ((own_bnd (p2 &&& (7 : Int32))) + ((p1 &&& (7 : Int32)) - (3 : Int32))))])) rfl (hb hby at_140) _ ?_
    show Steps p.tables e below (T2.setTop (mkF m 142 #[.val (.int p0), .val (.int p1), .val (.int p2), .val (.int (2 : Int32)), .val (.ref s_UTF8), .val (.int ((own_bnd (p2 &&& (7 : Int32))) + ((p1 &&& (7 : Int32)) - (3 : Int32)))), .unset] [(.int (55296 : Int32)), (.int ((own_bnd (p2 &&& (7 : Int32))) + ((p1 &&& (7 : Int32)) - (3 : Int32))))])) _
    refine XS.icmpNo X2.here hx rfl (hb hby at_142) rfl hc_lt_55296 ?_
    show Steps p.tables e below (T2.setTop (mkF m 145 #[.val (.int p0), .val (.int p1), .val (.int p2), .val (.int (2 : Int32)), .val (.ref s_UTF8), .val (.int ((own_bnd (p2 &&& (7 : Int32))) + ((p1 &&& (7 : Int32)) - (3 : Int32)))), .unset] [])) _
    refine XS.iload X2.here hx rfl (hb hby at_145) rfl ?_
    show Steps p.tables e below (T2.setTop (mkF m 147 #[.val (.int p0), .val (.int p1), .val (.int p2), .val (.int (2 : Int32)), .val (.ref s_UTF8), .val (.int ((own_bnd (p2 &&& (7 : Int32))) + ((p1 &&& (7 : Int32)) - (3 : Int32)))), .unset] [(.int ((own_bnd (p2 &&& (7 : Int32))) + ((p1 &&& (7 : Int32)) - (3 : Int32))))])) _
    refine X2.ldcInt hx hown (mvT hZ (hw _ (List.mem_of_getElem? (i := 19) rfl))) (g := (mkF m 147 #[.val (.int p0), .val (.int p1), .val (.int p2), .val (.int (2 : Int32)), .val (.ref s_UTF8), .val (.int ((own_bnd (p2 &&& (7 : Int32))) + ((p1 &&& (7 : Int32)) - (3 : Int32)))), .unset] [(.int ((own_bnd (p2 &&& (7 : Int32))) + ((p1 &&& (7 : Int32)) - (3 : Int32))))])) rfl (hb hby at_147) _ ?_
    show Steps p.tables e below (T2.setTop (mkF m 149 #[.val (.int p0), .val (.int p1), .val (.int p2), .val (.int (2 : Int32)), .val (.ref s_UTF8), .val (.int ((own_bnd (p2 &&& (7 : Int32))) + ((p1 &&& (7 : Int32)) - (3 : Int32)))), .unset] [(.int (57344 : Int32)), (.int ((own_bnd (p2 &&& (7 : Int32))) + ((p1 &&& (7 : Int32)) - (3 : Int32))))])) _
    refine XS.icmpNo X2.here hx rfl (hb hby at_149) rfl hc_lt_57344 ?_
    show Steps p.tables e below (T2.setTop (mkF m 152 #[.val (.int p0), .val (.int p1), .val (.int p2), .val (.int (2 : Int32)), .val (.ref s_UTF8), .val (.int ((own_bnd (p2 &&& (7 : Int32))) + ((p1 &&& (7 : Int32)) - (3 : Int32)))), .unset] [])) _
    refine XS.iload X2.here hx rfl (hb hby at_152) rfl ?_
    show Steps p.tables e below (T2.setTop (mkF m 154 #[.val (.int p0), .val (.int p1), .val (.int p2), .val (.int (2 : Int32)), .val (.ref s_UTF8), .val (.int ((own_bnd (p2 &&& (7 : Int32))) + ((p1 &&& (7 : Int32)) - (3 : Int32)))), .unset] [(.int ((own_bnd (p2 &&& (7 : Int32))) + ((p1 &&& (7 : Int32)) - (3 : Int32))))])) _
    refine X2.ldcInt hx hown (mvT hZ (hw _ (List.mem_of_getElem? (i := 25) rfl))) (g := (mkF m 154 #[.val (.int p0), .val (.int p1), .val (.int p2), .val (.int (2 : Int32)), .val (.ref s_UTF8), .val (.int ((own_bnd (p2 &&& (7 : Int32))) + ((p1 &&& (7 : Int32)) - (3 : Int32)))), .unset] [(.int ((own_bnd (p2 &&& (7 : Int32))) + ((p1 &&& (7 : Int32)) - (3 : Int32))))])) rfl (hb hby at_154) _ ?_
    show Steps p.tables e below (T2.setTop (mkF m 156 #[.val (.int p0), .val (.int p1), .val (.int p2), .val (.int (2 : Int32)), .val (.ref s_UTF8), .val (.int ((own_bnd (p2 &&& (7 : Int32))) + ((p1 &&& (7 : Int32)) - (3 : Int32)))), .unset] [(.int (1114111 : Int32)), (.int ((own_bnd (p2 &&& (7 : Int32))) + ((p1 &&& (7 : Int32)) - (3 : Int32))))])) _
    refine XS.icmpNo X2.here hx rfl (hb hby at_156) rfl hc_gt_1114111 ?_
    show Steps p.tables e below (T2.setTop (mkF m 159 #[.val (.int p0), .val (.int p1), .val (.int p2), .val (.int (2 : Int32)), .val (.ref s_UTF8), .val (.int ((own_bnd (p2 &&& (7 : Int32))) + ((p1 &&& (7 : Int32)) - (3 : Int32)))), .unset] [])) _
    refine XS.iconst X2.here hx rfl (hb hby at_159) ?_
    show Steps p.tables e below (T2.setTop (mkF m 160 #[.val (.int p0), .val (.int p1), .val (.int p2), .val (.int (2 : Int32)), .val (.ref s_UTF8), .val (.int ((own_bnd (p2 &&& (7 : Int32))) + ((p1 &&& (7 : Int32)) - (3 : Int32)))), .unset] [(.int (1 : Int32))])) _
    refine XS.goto X2.here hx rfl (pc0 := 160) (pc' := 164) rfl (hb hby at_160) (by decide) (by decide) ?_
    show Steps p.tables e below (T2.setTop (mkF m 164 #[.val (.int p0), .val (.int p1), .val (.int p2), .val (.int (2 : Int32)), .val (.ref s_UTF8), .val (.int ((own_bnd (p2 &&& (7 : Int32))) + ((p1 &&& (7 : Int32)) - (3 : Int32)))), .unset] [(.int (1 : Int32))])) _
    refine XS.istore X2.here hx rfl (hb hby at_164) rfl (l' := #[.val (.int p0), .val (.int p1), .val (.int p2), .val (.int (2 : Int32)), .val (.ref s_UTF8), .val (.int ((own_bnd (p2 &&& (7 : Int32))) + ((p1 &&& (7 : Int32)) - (3 : Int32)))), .val (.int (1 : Int32))]) rfl ?_
    show Steps p.tables e below (T2.setTop (mkF m 166 #[.val (.int p0), .val (.int p1), .val (.int p2), .val (.int (2 : Int32)), .val (.ref s_UTF8), .val (.int ((own_bnd (p2 &&& (7 : Int32))) + ((p1 &&& (7 : Int32)) - (3 : Int32)))), .val (.int (1 : Int32))] [])) _
    refine XS.aload X2.here hx rfl (hb hby at_166) rfl rfl ?_
    show Steps p.tables e below (T2.setTop (mkF m 168 #[.val (.int p0), .val (.int p1), .val (.int p2), .val (.int (2 : Int32)), .val (.ref s_UTF8), .val (.int ((own_bnd (p2 &&& (7 : Int32))) + ((p1 &&& (7 : Int32)) - (3 : Int32)))), .val (.int (1 : Int32))] [(.ref s_UTF8)])) _
    refine XS.iload X2.here hx rfl (hb hby at_168) rfl ?_
    show Steps p.tables e below (T2.setTop (mkF m 170 #[.val (.int p0), .val (.int p1), .val (.int p2), .val (.int (2 : Int32)), .val (.ref s_UTF8), .val (.int ((own_bnd (p2 &&& (7 : Int32))) + ((p1 &&& (7 : Int32)) - (3 : Int32)))), .val (.int (1 : Int32))] [(.int ((own_bnd (p2 &&& (7 : Int32))) + ((p1 &&& (7 : Int32)) - (3 : Int32)))), (.ref s_UTF8)])) _
    refine st3.trans ?_
    show Steps p.tables e below (T3.setTop (mkF m 173 #[.val (.int p0), .val (.int p1), .val (.int p2), .val (.int (2 : Int32)), .val (.ref s_UTF8), .val (.int ((own_bnd (p2 &&& (7 : Int32))) + ((p1 &&& (7 : Int32)) - (3 : Int32)))), .val (.int (1 : Int32))] [(.int (1 : Int32))])) _
    refine XS.iload X3.here hx rfl (hb hby at_173) rfl ?_
    show Steps p.tables e below (T3.setTop (mkF m 175 #[.val (.int p0), .val (.int p1), .val (.int p2), .val (.int (2 : Int32)), .val (.ref s_UTF8), .val (.int ((own_bnd (p2 &&& (7 : Int32))) + ((p1 &&& (7 : Int32)) - (3 : Int32)))), .val (.int (1 : Int32))] [(.int (1 : Int32)), (.int (1 : Int32))])) _
    refine XS.icmpNo X3.here hx rfl (hb hby at_175) rfl (by decide +kernel) ?_
    show Steps p.tables e below (T3.setTop (mkF m 178 #[.val (.int p0), .val (.int p1), .val (.int p2), .val (.int (2 : Int32)), .val (.ref s_UTF8), .val (.int ((own_bnd (p2 &&& (7 : Int32))) + ((p1 &&& (7 : Int32)) - (3 : Int32)))), .val (.int (1 : Int32))] [])) _
    refine XS.iconst X3.here hx rfl (hb hby at_178) ?_
    show Steps p.tables e below (T3.setTop (mkF m 179 #[.val (.int p0), .val (.int p1), .val (.int p2), .val (.int (2 : Int32)), .val (.ref s_UTF8), .val (.int ((own_bnd (p2 &&& (7 : Int32))) + ((p1 &&& (7 : Int32)) - (3 : Int32)))), .val (.int (1 : Int32))] [(.int (1 : Int32))])) _
    refine XS.goto X3.here hx rfl (pc0 := 179) (pc' := 183) rfl (hb hby at_179) (by decide) (by decide) ?_
    show Steps p.tables e below (T3.setTop (mkF m 183 #[.val (.int p0), .val (.int p1), .val (.int p2), .val (.int (2 : Int32)), .val (.ref s_UTF8), .val (.int ((own_bnd (p2 &&& (7 : Int32))) + ((p1 &&& (7 : Int32)) - (3 : Int32)))), .val (.int (1 : Int32))] [(.int (1 : Int32))])) _
    exact retN X3 hx (t := .boolean) Bd.returns (by simp) (hb hby at_183) hr
  · exact ⟨rfl, N3, e3⟩
set_option maxRecDepth 65536 in
set_option maxHeartbeats 40000000 in
theorem r48 (l : Launch) (Z : State) (a0 : Array Value) (hw : ∀ d ∈ tables_1, d.before a0 Z = true) (ws : List Jvm.Cond) (h0 : Heap) (n0 : Nat) (s_IA5 : Addr) (s_BMP : Addr) (s_UTF8 : Addr) (K : Ctx Z h0 s_IA5 s_BMP s_UTF8) (p1 : Int32) (p2 : Int32) (hc_lt_0 : ifCond.holds .lt ((own_bnd (p2 &&& (7 : Int32))) + ((p1 &&& (7 : Int32)) - (3 : Int32))) = false) (hc_gt_1114111 : if_icmp.holds .gt ((own_bnd (p2 &&& (7 : Int32))) + ((p1 &&& (7 : Int32)) - (3 : Int32))) (1114111 : Int32) = true) :
    MetFree l (⟨"com/example/plainwire/plainwire/definitions/Repertoire", "holds", "(I)Z"⟩ : MethodName) (head1 (Jvm.Cond.code (⟨"com/example/plainwire/plainwire/definitions/Repertoire", "holds", "(I)Z"⟩ : MethodName) prog_37_method_5_code 2 (some .boolean) :: ws) ({ frames := 0, cells := 0, slots := 0, locals := 0 } : Room)) (fun a U => a = #[(.ref s_UTF8), (.int ((own_bnd (p2 &&& (7 : Int32))) + ((p1 &&& (7 : Int32)) - (3 : Int32))))] ∧ Z.Warmed39 U.vm ∧ U.heap = h0) (fun _ _ _ _ _ => True) (fun _ U o U' => ∃ v L, o = .returned v ∧ QV (.int (0 : Int32)) h0 n0 v U'.heap L ∧ FrameEnd U o U' L ({ frames := 0, cells := 0, slots := 0, locals := 0 } : Room).cells ({ frames := 0, cells := 0, slots := 0, locals := 0 } : Room).slots) := by
  obtain ⟨S_IA5, E_IA5, F_IA5_lastCodePoint, S_BMP, E_BMP, F_BMP_lastCodePoint, S_UTF8, E_UTF8, F_UTF8_lastCodePoint⟩ := id K
  refine MetFree.of_bodySF (plainFor_of_name pn1) hisR ?_
  intro p e s m args below meth c s₁ Bd hml0 hP hK
  obtain ⟨rfl, hZ, hh⟩ := hP
  have hx := Bd.exec
  have hby := Bd.bytes
  have hml : c.maxLocals = 2 := hml0
  have hown : s.vm.findClass "com/example/plainwire/plainwire/definitions/Repertoire" = some m.cls := findClass_of_methodNamed Bd.named
  have X0 : Stand p l e ({ frames := 0, cells := 0, slots := 0, locals := 0 } : Room) s m #[(.ref s_UTF8), (.int ((own_bnd (p2 &&& (7 : Int32))) + ((p1 &&& (7 : Int32)) - (3 : Int32))))] below meth c s₁ [] 0 0 := Stand.of_body Bd
  have e0 : s₁.heap = h0 := by rw [← hh, Bd.state]; rfl
  have N0 := Fr.nil n0
  have pre0 : ∀ t, Steps p.tables e below (s₁.setTop (mkF m 0 #[.val (.ref s_UTF8), .val (.int ((own_bnd (p2 &&& (7 : Int32))) + ((p1 &&& (7 : Int32)) - (3 : Int32))))] [])) t → Steps p.tables e below (s₁.setTop (entryFrame m #[(.ref s_UTF8), (.int ((own_bnd (p2 &&& (7 : Int32))) + ((p1 &&& (7 : Int32)) - (3 : Int32))))] 2)) t := fun t k => castTop (by first | (simp [entryFrame, mkF, argsToLocals, Value.category]; done) | rfl) k
  obtain ⟨T1, X1, e1, st1⟩ := getF X0 hx hZ hown (host := "") (Or.inl (hw _ (List.mem_of_getElem? (i := 14) rfl))) Via.refl e0 F_UTF8_lastCodePoint (g := (mkF m 6 #[.val (.ref s_UTF8), .val (.int ((own_bnd (p2 &&& (7 : Int32))) + ((p1 &&& (7 : Int32)) - (3 : Int32))))] [(.ref s_UTF8), (.int ((own_bnd (p2 &&& (7 : Int32))) + ((p1 &&& (7 : Int32)) - (3 : Int32))))])) rfl rfl (hb hby d1_6)
  obtain ⟨fs, hr, hrun, hended, hW, hsame⟩ := X1.leave (v := some (.int (0 : Int32))) (fun h => by rw [Bd.returns] at h; cases h)
  refine ⟨_, _, pre0 _ ?_, hrun, hended, _, _, rfl, ?_, ⟨_, rfl⟩, hW, hsame.mono (by decide) (by decide)⟩
  · show Steps p.tables e below (s₁.setTop (mkF m 0 #[.val (.ref s_UTF8), .val (.int ((own_bnd (p2 &&& (7 : Int32))) + ((p1 &&& (7 : Int32)) - (3 : Int32))))] [])) _
    refine XS.iloadN X0.here hx rfl (hb hby d1_0) rfl ?_
    show Steps p.tables e below (s₁.setTop (mkF m 1 #[.val (.ref s_UTF8), .val (.int ((own_bnd (p2 &&& (7 : Int32))) + ((p1 &&& (7 : Int32)) - (3 : Int32))))] [(.int ((own_bnd (p2 &&& (7 : Int32))) + ((p1 &&& (7 : Int32)) - (3 : Int32))))])) _
    refine XS.ifNo X0.here hx rfl (hb hby d1_1) rfl hc_lt_0 ?_
    show Steps p.tables e below (s₁.setTop (mkF m 4 #[.val (.ref s_UTF8), .val (.int ((own_bnd (p2 &&& (7 : Int32))) + ((p1 &&& (7 : Int32)) - (3 : Int32))))] [])) _
    refine XS.iloadN X0.here hx rfl (hb hby d1_4) rfl ?_
    show Steps p.tables e below (s₁.setTop (mkF m 5 #[.val (.ref s_UTF8), .val (.int ((own_bnd (p2 &&& (7 : Int32))) + ((p1 &&& (7 : Int32)) - (3 : Int32))))] [(.int ((own_bnd (p2 &&& (7 : Int32))) + ((p1 &&& (7 : Int32)) - (3 : Int32))))])) _
    refine XS.aloadN X0.here hx rfl (hb hby d1_5) rfl rfl ?_
    show Steps p.tables e below (s₁.setTop (mkF m 6 #[.val (.ref s_UTF8), .val (.int ((own_bnd (p2 &&& (7 : Int32))) + ((p1 &&& (7 : Int32)) - (3 : Int32))))] [(.ref s_UTF8), (.int ((own_bnd (p2 &&& (7 : Int32))) + ((p1 &&& (7 : Int32)) - (3 : Int32))))])) _
    refine st1 _ ?_
    show Steps p.tables e below (T1.setTop (mkF m 9 #[.val (.ref s_UTF8), .val (.int ((own_bnd (p2 &&& (7 : Int32))) + ((p1 &&& (7 : Int32)) - (3 : Int32))))] [(.int (1114111 : Int32)), (.int ((own_bnd (p2 &&& (7 : Int32))) + ((p1 &&& (7 : Int32)) - (3 : Int32))))])) _
    refine XS.icmpYes X1.here hx rfl (pc0 := 9) (pc' := 28) rfl (hb hby d1_9) rfl hc_gt_1114111 (by decide) (by decide) ?_
    show Steps p.tables e below (T1.setTop (mkF m 28 #[.val (.ref s_UTF8), .val (.int ((own_bnd (p2 &&& (7 : Int32))) + ((p1 &&& (7 : Int32)) - (3 : Int32))))] [])) _
    refine XS.iconst X1.here hx rfl (hb hby d1_28) ?_
    show Steps p.tables e below (T1.setTop (mkF m 29 #[.val (.ref s_UTF8), .val (.int ((own_bnd (p2 &&& (7 : Int32))) + ((p1 &&& (7 : Int32)) - (3 : Int32))))] [(.int (0 : Int32))])) _
    exact retN X1 hx (t := .boolean) Bd.returns (by simp) (hb hby d1_29) hr
  · exact ⟨rfl, N0, e1⟩
set_option maxRecDepth 65536 in
set_option maxHeartbeats 40000000 in
theorem law_k2_0_4 (l : Launch) (Z : State) (a0 : Array Value) (hw : ∀ d ∈ tables_1, d.before a0 Z = true) (ws : List Jvm.Cond) (h0 : Heap) (n0 : Nat) (s_IA5 : Addr) (s_BMP : Addr) (s_UTF8 : Addr) (K : Ctx Z h0 s_IA5 s_BMP s_UTF8) (p0 : Int32) (p1 : Int32) (p2 : Int32) (ha : ((p0 &&& (2147483647 : Int32)) % (3 : Int32)) = (2 : Int32)) (hb1 : (p2 &&& (8 : Int32)) = (0 : Int32)) (hc_lt_0 : ifCond.holds .lt ((own_bnd (p2 &&& (7 : Int32))) + ((p1 &&& (7 : Int32)) - (3 : Int32))) = false) (hc_lt_55296 : if_icmp.holds .lt ((own_bnd (p2 &&& (7 : Int32))) + ((p1 &&& (7 : Int32)) - (3 : Int32))) (55296 : Int32) = false) (hc_lt_57344 : if_icmp.holds .lt ((own_bnd (p2 &&& (7 : Int32))) + ((p1 &&& (7 : Int32)) - (3 : Int32))) (57344 : Int32) = false) (hc_gt_1114111 : if_icmp.holds .gt ((own_bnd (p2 &&& (7 : Int32))) + ((p1 &&& (7 : Int32)) - (3 : Int32))) (1114111 : Int32) = true) :
    MetFree l x (head1 (Jvm.Cond.code x code maxLocals ret :: ws) room_1) (fun a U => a = #[(.int p0), (.int p1), (.int p2)] ∧ Z.Warmed39 U.vm ∧ U.heap = h0) (fun _ _ _ _ _ => True) (fun _ U o U' => ∃ v L, o = .returned v ∧ QV (.int (1 : Int32)) h0 n0 v U'.heap L ∧ FrameEnd U o U' L room_1.cells room_1.slots) := by
  obtain ⟨S_IA5, E_IA5, F_IA5_lastCodePoint, S_BMP, E_BMP, F_BMP_lastCodePoint, S_UTF8, E_UTF8, F_UTF8_lastCodePoint⟩ := id K
  refine MetFree.of_bodySF (plainFor_of_name pn2) hisR ?_
  intro p e s m args below meth c s₁ Bd hml0 hP hK
  obtain ⟨rfl, hZ, hh⟩ := hP
  have hx := Bd.exec
  have hby := Bd.bytes
  have hml : c.maxLocals = 7 := hml0
  have hown : s.vm.findClass "com/example/plainwire/plainwire/definitions/RepertoireHoldsPinLaw" = some m.cls := findClass_of_methodNamed Bd.named
  have X0 : Stand p l e room_1 s m #[(.int p0), (.int p1), (.int p2)] below meth c s₁ [] 0 0 := Stand.of_body Bd
  have e0 : s₁.heap = h0 := by rw [← hh, Bd.state]; rfl
  have N0 := Fr.nil n0
  have pre0 : ∀ t, Steps p.tables e below (s₁.setTop (mkF m 0 #[.val (.int p0), .val (.int p1), .val (.int p2), .unset, .unset, .unset, .unset] [])) t → Steps p.tables e below (s₁.setTop (entryFrame m #[(.int p0), (.int p1), (.int p2)] maxLocals)) t := fun t k => castTop (by first | (simp [entryFrame, mkF, argsToLocals, Value.category, maxLocals]; done) | rfl) k
  obtain ⟨T1, X1, e1, st1⟩ := getS X0 hx hZ hown (host := "") (hw _ (List.mem_of_getElem? (i := 23) rfl)) Via.refl e0 S_UTF8 (g := (mkF m 32 #[.val (.int p0), .val (.int p1), .val (.int p2), .val (.int (2 : Int32)), .unset, .unset, .unset] [])) rfl (hb hby at_32)
  obtain ⟨_, _, ⟨T2, L2, k2, n2⟩, -, X2, ⟨Lc2, hQ2, l2, y2, z2⟩, st2⟩ := Jvm.LawKit.callS X1 hx (y := (⟨"com/example/plainwire/plainwire/definitions/RepertoireHoldsPinLaw", "boundary", "(I)I"⟩ : MethodName)) hown (mvT hZ (hw _ (List.mem_of_getElem? (i := 4) rfl))) (mvT hZ (hw _ (List.mem_of_getElem? (i := 5) rfl))) (mvT hZ (hw _ (List.mem_of_getElem? (i := 6) rfl))) (mvT hZ (hw _ (List.mem_of_getElem? (i := 7) rfl))) (by decide) (backOf (W := 0) (own_bndK l Z a0 hw [] h0 n0 s_IA5 s_BMP s_UTF8 K (p2 &&& (7 : Int32)) (own_and8 p2)) hZ (hw _ (List.mem_of_getElem? (i := 7) rfl)) (hw _ (List.mem_of_getElem? (i := 6) rfl)) (by decide) (by decide)) (g := (mkF m 54 #[.val (.int p0), .val (.int p1), .val (.int p2), .val (.int (2 : Int32)), .val (.ref s_UTF8), .unset, .unset] [(.int (p2 &&& (7 : Int32)))])) rfl (by rw [hml]; rfl) (argsL := [(.int (p2 &&& (7 : Int32)))]) (rest := []) (lenOf pd0 rfl) rfl (by show 2 * 0 + _ ≤ _; exact Nat.le_of_eq rfl) (hb hby at_54) (fun _ _ => ⟨rfl, e1, (by decide : 0 + 0 ≤ _), (by decide : 0 + 0 ≤ _)⟩)
  dsimp only [Pt.U, Pt.locs, Pt.cells, Pt.slots] at X2 l2 y2 z2 st2 hQ2
  subst l2 y2 z2
  obtain ⟨rfl, N2q, e2⟩ := hQ2
  have N2 := Fr.app N0 N2q
  obtain ⟨cq3, kq3, q3a, q3b, q3c⟩ := isOf hZ e2 E_UTF8
  obtain ⟨_, _, ⟨T3, L3, k3, n3⟩, -, X3, ⟨Lc3, hQ3, l3, y3, z3⟩, st3⟩ := X2.virtualBack hx (y := (⟨"com/example/plainwire/plainwire/definitions/Repertoire", "holds", "(I)Z"⟩ : MethodName)) (z := (⟨"com/example/plainwire/plainwire/definitions/Repertoire", "holds", "(I)Z"⟩ : MethodName)) hown (mvT hZ (hw _ (List.mem_of_getElem? (i := 9) rfl))) (mvT hZ (hw _ (List.mem_of_getElem? (i := 10) rfl))) (notFace_of_selects (args := #[]) (mvT hZ (hw _ (List.mem_of_getElem? (i := 12) rfl)))) (mvT hZ (hw _ (List.mem_of_getElem? (i := 12) rfl))) (mvT hZ (hw _ (List.mem_of_getElem? (i := 11) rfl))) (by decide) (backOf (W := 0) (r48 l Z a0 hw [] h0 n0 s_IA5 s_BMP s_UTF8 K p1 p2 hc_lt_0 hc_gt_1114111) hZ (hw _ (List.mem_of_getElem? (i := 13) rfl)) (hw _ (List.mem_of_getElem? (i := 2) rfl)) (by decide) (by decide)) q3a q3c (g := (mkF m 170 #[.val (.int p0), .val (.int p1), .val (.int p2), .val (.int (2 : Int32)), .val (.ref s_UTF8), .val (.int ((own_bnd (p2 &&& (7 : Int32))) + ((p1 &&& (7 : Int32)) - (3 : Int32)))), .val (.int (0 : Int32))] [(.int ((own_bnd (p2 &&& (7 : Int32))) + ((p1 &&& (7 : Int32)) - (3 : Int32)))), (.ref s_UTF8)])) rfl (by rw [hml]; rfl) (Steps.refl _) (argsL := [(.int ((own_bnd (p2 &&& (7 : Int32))) + ((p1 &&& (7 : Int32)) - (3 : Int32))))]) (rest := []) (lenOf pd1 rfl) rfl (by show 2 * 0 + _ ≤ _; exact Nat.le_of_eq rfl) (hb hby at_170) (fun _ _ => ⟨rfl, e2, (by decide : 0 + 0 ≤ _), (by decide : 0 + 0 ≤ _)⟩)
  dsimp only [Pt.U, Pt.locs, Pt.cells, Pt.slots] at X3 l3 y3 z3 st3 hQ3
  subst l3 y3 z3
  obtain ⟨rfl, N3q, e3⟩ := hQ3
  have N3 := Fr.app N2 N3q
  obtain ⟨fs, hr, hrun, hended, hW, hsame⟩ := X3.leave (v := some (.int (1 : Int32))) (fun h => by rw [Bd.returns] at h; cases h)
  refine ⟨_, _, pre0 _ ?_, hrun, hended, _, _, rfl, ?_, ⟨_, rfl⟩, hW, hsame.mono (by decide) (by decide)⟩
  · show Steps p.tables e below (s₁.setTop (mkF m 0 #[.val (.int p0), .val (.int p1), .val (.int p2), .unset, .unset, .unset, .unset] [])) _
    refine XS.iloadN X0.here hx rfl (hb hby at_0) rfl ?_
    show Steps p.tables e below (s₁.setTop (mkF m 1 #[.val (.int p0), .val (.int p1), .val (.int p2), .unset, .unset, .unset, .unset] [(.int p0)])) _
    refine X0.ldcInt hx hown (mvT hZ (hw _ (List.mem_of_getElem? (i := 0) rfl))) (g := (mkF m 1 #[.val (.int p0), .val (.int p1), .val (.int p2), .unset, .unset, .unset, .unset] [(.int p0)])) rfl (hb hby at_1) _ ?_
    show Steps p.tables e below (s₁.setTop (mkF m 3 #[.val (.int p0), .val (.int p1), .val (.int p2), .unset, .unset, .unset, .unset] [(.int (2147483647 : Int32)), (.int p0)])) _
    refine XS.iand X0.here hx rfl (hb hby at_3) rfl ?_
    show Steps p.tables e below (s₁.setTop (mkF m 4 #[.val (.int p0), .val (.int p1), .val (.int p2), .unset, .unset, .unset, .unset] [(.int (p0 &&& (2147483647 : Int32)))])) _
    refine XS.iconst X0.here hx rfl (hb hby at_4) ?_
    show Steps p.tables e below (s₁.setTop (mkF m 5 #[.val (.int p0), .val (.int p1), .val (.int p2), .unset, .unset, .unset, .unset] [(.int (3 : Int32)), (.int (p0 &&& (2147483647 : Int32)))])) _
    refine Jvm.RoadKit.iremM X0 hx rfl (hb hby at_5) rfl (by decide) ?_
    show Steps p.tables e below (s₁.setTop (mkF m 6 #[.val (.int p0), .val (.int p1), .val (.int p2), .unset, .unset, .unset, .unset] [(.int ((p0 &&& (2147483647 : Int32)) % (3 : Int32)))])) _
    rw [ha]
    show Steps p.tables e below (s₁.setTop (mkF m 6 #[.val (.int p0), .val (.int p1), .val (.int p2), .unset, .unset, .unset, .unset] [(.int (2 : Int32))])) _
    refine XS.istoreN X0.here hx rfl (hb hby at_6) rfl (l' := #[.val (.int p0), .val (.int p1), .val (.int p2), .val (.int (2 : Int32)), .unset, .unset, .unset]) rfl ?_
    show Steps p.tables e below (s₁.setTop (mkF m 7 #[.val (.int p0), .val (.int p1), .val (.int p2), .val (.int (2 : Int32)), .unset, .unset, .unset] [])) _
    refine XS.iloadN X0.here hx rfl (hb hby at_7) rfl ?_
    show Steps p.tables e below (s₁.setTop (mkF m 8 #[.val (.int p0), .val (.int p1), .val (.int p2), .val (.int (2 : Int32)), .unset, .unset, .unset] [(.int (2 : Int32))])) _
    refine XS.ifYes X0.here hx rfl (pc0 := 8) (pc' := 19) rfl (hb hby at_8) rfl (by decide +kernel) (by decide) (by decide) ?_
    show Steps p.tables e below (s₁.setTop (mkF m 19 #[.val (.int p0), .val (.int p1), .val (.int p2), .val (.int (2 : Int32)), .unset, .unset, .unset] [])) _
    refine XS.iloadN X0.here hx rfl (hb hby at_19) rfl ?_
    show Steps p.tables e below (s₁.setTop (mkF m 20 #[.val (.int p0), .val (.int p1), .val (.int p2), .val (.int (2 : Int32)), .unset, .unset, .unset] [(.int (2 : Int32))])) _
    refine XS.iconst X0.here hx rfl (hb hby at_20) ?_
    show Steps p.tables e below (s₁.setTop (mkF m 21 #[.val (.int p0), .val (.int p1), .val (.int p2), .val (.int (2 : Int32)), .unset, .unset, .unset] [(.int (1 : Int32)), (.int (2 : Int32))])) _
    refine XS.icmpYes X0.here hx rfl (pc0 := 21) (pc' := 32) rfl (hb hby at_21) rfl (by decide +kernel) (by decide) (by decide) ?_
    show Steps p.tables e below (s₁.setTop (mkF m 32 #[.val (.int p0), .val (.int p1), .val (.int p2), .val (.int (2 : Int32)), .unset, .unset, .unset] [])) _
    refine st1 _ ?_
    show Steps p.tables e below (T1.setTop (mkF m 35 #[.val (.int p0), .val (.int p1), .val (.int p2), .val (.int (2 : Int32)), .unset, .unset, .unset] [(.ref s_UTF8)])) _
    refine XS.astore X1.here hx rfl (hb hby at_35) rfl rfl (l' := #[.val (.int p0), .val (.int p1), .val (.int p2), .val (.int (2 : Int32)), .val (.ref s_UTF8), .unset, .unset]) rfl ?_
    show Steps p.tables e below (T1.setTop (mkF m 37 #[.val (.int p0), .val (.int p1), .val (.int p2), .val (.int (2 : Int32)), .val (.ref s_UTF8), .unset, .unset] [])) _
    refine XS.iloadN X1.here hx rfl (hb hby at_37) rfl ?_
    show Steps p.tables e below (T1.setTop (mkF m 38 #[.val (.int p0), .val (.int p1), .val (.int p2), .val (.int (2 : Int32)), .val (.ref s_UTF8), .unset, .unset] [(.int p2)])) _
    refine XS.bipush X1.here hx rfl (hb hby at_38) ?_
    show Steps p.tables e below (T1.setTop (mkF m 40 #[.val (.int p0), .val (.int p1), .val (.int p2), .val (.int (2 : Int32)), .val (.ref s_UTF8), .unset, .unset] [(.int (8 : Int32)), (.int p2)])) _
    refine XS.iand X1.here hx rfl (hb hby at_40) rfl ?_
    show Steps p.tables e below (T1.setTop (mkF m 41 #[.val (.int p0), .val (.int p1), .val (.int p2), .val (.int (2 : Int32)), .val (.ref s_UTF8), .unset, .unset] [(.int (p2 &&& (8 : Int32)))])) _
    rw [hb1]
    show Steps p.tables e below (T1.setTop (mkF m 41 #[.val (.int p0), .val (.int p1), .val (.int p2), .val (.int (2 : Int32)), .val (.ref s_UTF8), .unset, .unset] [(.int (0 : Int32))])) _
    refine XS.ifYes X1.here hx rfl (pc0 := 41) (pc' := 50) rfl (hb hby at_41) rfl (by decide +kernel) (by decide) (by decide) ?_
    show Steps p.tables e below (T1.setTop (mkF m 50 #[.val (.int p0), .val (.int p1), .val (.int p2), .val (.int (2 : Int32)), .val (.ref s_UTF8), .unset, .unset] [])) _
    refine XS.iloadN X1.here hx rfl (hb hby at_50) rfl ?_
    show Steps p.tables e below (T1.setTop (mkF m 51 #[.val (.int p0), .val (.int p1), .val (.int p2), .val (.int (2 : Int32)), .val (.ref s_UTF8), .unset, .unset] [(.int p2)])) _
    refine XS.bipush X1.here hx rfl (hb hby at_51) ?_
    show Steps p.tables e below (T1.setTop (mkF m 53 #[.val (.int p0), .val (.int p1), .val (.int p2), .val (.int (2 : Int32)), .val (.ref s_UTF8), .unset, .unset] [(.int (7 : Int32)), (.int p2)])) _
    refine XS.iand X1.here hx rfl (hb hby at_53) rfl ?_
    show Steps p.tables e below (T1.setTop (mkF m 54 #[.val (.int p0), .val (.int p1), .val (.int p2), .val (.int (2 : Int32)), .val (.ref s_UTF8), .unset, .unset] [(.int (p2 &&& (7 : Int32)))])) _
    refine st2 _ ?_
    show Steps p.tables e below (T2.setTop (mkF m 57 #[.val (.int p0), .val (.int p1), .val (.int p2), .val (.int (2 : Int32)), .val (.ref s_UTF8), .unset, .unset] [(.int (own_bnd (p2 &&& (7 : Int32))))])) _
    refine XS.iloadN X2.here hx rfl (hb hby at_57) rfl ?_
    show Steps p.tables e below (T2.setTop (mkF m 58 #[.val (.int p0), .val (.int p1), .val (.int p2), .val (.int (2 : Int32)), .val (.ref s_UTF8), .unset, .unset] [(.int p1), (.int (own_bnd (p2 &&& (7 : Int32))))])) _
    refine XS.bipush X2.here hx rfl (hb hby at_58) ?_
    show Steps p.tables e below (T2.setTop (mkF m 60 #[.val (.int p0), .val (.int p1), .val (.int p2), .val (.int (2 : Int32)), .val (.ref s_UTF8), .unset, .unset] [(.int (7 : Int32)), (.int p1), (.int (own_bnd (p2 &&& (7 : Int32))))])) _
    refine XS.iand X2.here hx rfl (hb hby at_60) rfl ?_
    show Steps p.tables e below (T2.setTop (mkF m 61 #[.val (.int p0), .val (.int p1), .val (.int p2), .val (.int (2 : Int32)), .val (.ref s_UTF8), .unset, .unset] [(.int (p1 &&& (7 : Int32))), (.int (own_bnd (p2 &&& (7 : Int32))))])) _
    refine XS.iconst X2.here hx rfl (hb hby at_61) ?_
    show Steps p.tables e below (T2.setTop (mkF m 62 #[.val (.int p0), .val (.int p1), .val (.int p2), .val (.int (2 : Int32)), .val (.ref s_UTF8), .unset, .unset] [(.int (3 : Int32)), (.int (p1 &&& (7 : Int32))), (.int (own_bnd (p2 &&& (7 : Int32))))])) _
    refine XS.isub X2.here hx rfl (hb hby at_62) rfl ?_
    show Steps p.tables e below (T2.setTop (mkF m 63 #[.val (.int p0), .val (.int p1), .val (.int p2), .val (.int (2 : Int32)), .val (.ref s_UTF8), .unset, .unset] [(.int ((p1 &&& (7 : Int32)) - (3 : Int32))), (.int (own_bnd (p2 &&& (7 : Int32))))])) _
    refine XS.iadd X2.here hx rfl (hb hby at_63) rfl ?_
    show Steps p.tables e below (T2.setTop (mkF m 64 #[.val (.int p0), .val (.int p1), .val (.int p2), .val (.int (2 : Int32)), .val (.ref s_UTF8), .unset, .unset] [(.int ((own_bnd (p2 &&& (7 : Int32))) + ((p1 &&& (7 : Int32)) - (3 : Int32))))])) _
    refine XS.istore X2.here hx rfl (hb hby at_64) rfl (l' := #[.val (.int p0), .val (.int p1), .val (.int p2), .val (.int (2 : Int32)), .val (.ref s_UTF8), .val (.int ((own_bnd (p2 &&& (7 : Int32))) + ((p1 &&& (7 : Int32)) - (3 : Int32)))), .unset]) rfl ?_
    show Steps p.tables e below (T2.setTop (mkF m 66 #[.val (.int p0), .val (.int p1), .val (.int p2), .val (.int (2 : Int32)), .val (.ref s_UTF8), .val (.int ((own_bnd (p2 &&& (7 : Int32))) + ((p1 &&& (7 : Int32)) - (3 : Int32)))), .unset] [])) _
    refine XS.iloadN X2.here hx rfl (hb hby at_66) rfl ?_
    show Steps p.tables e below (T2.setTop (mkF m 67 #[.val (.int p0), .val (.int p1), .val (.int p2), .val (.int (2 : Int32)), .val (.ref s_UTF8), .val (.int ((own_bnd (p2 &&& (7 : Int32))) + ((p1 &&& (7 : Int32)) - (3 : Int32)))), .unset] [(.int (2 : Int32))])) _
    refine XS.ifYes X2.here hx rfl (pc0 := 67) (pc' := 92) rfl (hb hby at_67) rfl (by decide +kernel) (by decide) (by decide) ?_
    show Steps p.tables e below (T2.setTop (mkF m 92 #[.val (.int p0), .val (.int p1), .val (.int p2), .val (.int (2 : Int32)), .val (.ref s_UTF8), .val (.int ((own_bnd (p2 &&& (7 : Int32))) + ((p1 &&& (7 : Int32)) - (3 : Int32)))), .unset] [])) _
    refine XS.iloadN X2.here hx rfl (hb hby at_92) rfl ?_
    show Steps p.tables e below (T2.setTop (mkF m 93 #[.val (.int p0), .val (.int p1), .val (.int p2), .val (.int (2 : Int32)), .val (.ref s_UTF8), .val (.int ((own_bnd (p2 &&& (7 : Int32))) + ((p1 &&& (7 : Int32)) - (3 : Int32)))), .unset] [(.int (2 : Int32))])) _
    refine XS.iconst X2.here hx rfl (hb hby at_93) ?_
    show Steps p.tables e below (T2.setTop (mkF m 94 #[.val (.int p0), .val (.int p1), .val (.int p2), .val (.int (2 : Int32)), .val (.ref s_UTF8), .val (.int ((own_bnd (p2 &&& (7 : Int32))) + ((p1 &&& (7 : Int32)) - (3 : Int32)))), .unset] [(.int (1 : Int32)), (.int (2 : Int32))])) _
    refine XS.icmpYes X2.here hx rfl (pc0 := 94) (pc' := 133) rfl (hb hby at_94) rfl (by decide +kernel) (by decide) (by decide) ?_
    show Steps p.tables e below (T2.setTop (mkF m 133 #[.val (.int p0), .val (.int p1), .val (.int p2), .val (.int (2 : Int32)), .val (.ref s_UTF8), .val (.int ((own_bnd (p2 &&& (7 : Int32))) + ((p1 &&& (7 : Int32)) - (3 : Int32)))), .unset] [])) _
    refine XS.iload X2.here hx rfl (hb hby at_133) rfl ?_
    show Steps p.tables e below (T2.setTop (mkF m 135 #[.val (.int p0), .val (.int p1), .val (.int p2), .val (.int (2 : Int32)), .val (.ref s_UTF8), .val (.int ((own_bnd (p2 &&& (7 : Int32))) + ((p1 &&& (7 : Int32)) - (3 : Int32)))), .unset] [(.int ((own_bnd (p2 &&& (7 : Int32))) + ((p1 &&& (7 : Int32)) - (3 : Int32))))])) _
    refine XS.ifNo X2.here hx rfl (hb hby at_135) rfl hc_lt_0 ?_
    show Steps p.tables e below (T2.setTop (mkF m 138 #[.val (.int p0), .val (.int p1), .val (.int p2), .val (.int (2 : Int32)), .val (.ref s_UTF8), .val (.int ((own_bnd (p2 &&& (7 : Int32))) + ((p1 &&& (7 : Int32)) - (3 : Int32)))), .unset] [])) _
    refine XS.iload X2.here hx rfl (hb hby at_138) rfl ?_
    show Steps p.tables e below (T2.setTop (mkF m 140 #[.val (.int p0), .val (.int p1), .val (.int p2), .val (.int (2 : Int32)), .val (.ref s_UTF8), .val (.int ((own_bnd (p2 &&& (7 : Int32))) + ((p1 &&& (7 : Int32)) - (3 : Int32)))), .unset] [(.int ((own_bnd (p2 &&& (7 : Int32))) + ((p1 &&& (7 : Int32)) - (3 : Int32))))])) _
    refine X2.ldcInt hx hown (mvT hZ (hw _ (List.mem_of_getElem? (i := 8) rfl))) (g := (mkF m 140 #[.val (.int p0), .val (.int p1), .val (.int p2), .val (.int (2 : Int32)), .val (.ref s_UTF8), .val (.int ((own_bnd (p2 &&& (7 : Int32))) + ((p1 &&& (7 : Int32)) - (3 : Int32)))), .unset] [(.int ((own_bnd (p2 &&& (7 : Int32))) + ((p1 &&& (7 : Int32)) - (3 : Int32))))])) rfl (hb hby at_140) _ ?_
    show Steps p.tables e below (T2.setTop (mkF m 142 #[.val (.int p0), .val (.int p1), .val (.int p2), .val (.int (2 : Int32)), .val (.ref s_UTF8), .val (.int ((own_bnd (p2 &&& (7 : Int32))) + ((p1 &&& (7 : Int32)) - (3 : Int32)))), .unset] [(.int (55296 : Int32)), (.int ((own_bnd (p2 &&& (7 : Int32))) + ((p1 &&& (7 : Int32)) - (3 : Int32))))])) _
    refine XS.icmpNo X2.here hx rfl (hb hby at_142) rfl hc_lt_55296 ?_
    show Steps p.tables e below (T2.setTop (mkF m 145 #[.val (.int p0), .val (.int p1), .val (.int p2), .val (.int (2 : Int32)), .val (.ref s_UTF8), .val (.int ((own_bnd (p2 &&& (7 : Int32))) + ((p1 &&& (7 : Int32)) - (3 : Int32)))), .unset] [])) _
    refine XS.iload X2.here hx rfl (hb hby at_145) rfl ?_
    show Steps p.tables e below (T2.setTop (mkF m 147 #[.val (.int p0), .val (.int p1), .val (.int p2), .val (.int (2 : Int32)), .val (.ref s_UTF8), .val (.int ((own_bnd (p2 &&& (7 : Int32))) + ((p1 &&& (7 : Int32)) - (3 : Int32)))), .unset] [(.int ((own_bnd (p2 &&& (7 : Int32))) + ((p1 &&& (7 : Int32)) - (3 : Int32))))])) _
    refine X2.ldcInt hx hown (mvT hZ (hw _ (List.mem_of_getElem? (i := 19) rfl))) (g := (mkF m 147 #[.val (.int p0), .val (.int p1), .val (.int p2), .val (.int (2 : Int32)), .val (.ref s_UTF8), .val (.int ((own_bnd (p2 &&& (7 : Int32))) + ((p1 &&& (7 : Int32)) - (3 : Int32)))), .unset] [(.int ((own_bnd (p2 &&& (7 : Int32))) + ((p1 &&& (7 : Int32)) - (3 : Int32))))])) rfl (hb hby at_147) _ ?_
    show Steps p.tables e below (T2.setTop (mkF m 149 #[.val (.int p0), .val (.int p1), .val (.int p2), .val (.int (2 : Int32)), .val (.ref s_UTF8), .val (.int ((own_bnd (p2 &&& (7 : Int32))) + ((p1 &&& (7 : Int32)) - (3 : Int32)))), .unset] [(.int (57344 : Int32)), (.int ((own_bnd (p2 &&& (7 : Int32))) + ((p1 &&& (7 : Int32)) - (3 : Int32))))])) _
    refine XS.icmpNo X2.here hx rfl (hb hby at_149) rfl hc_lt_57344 ?_
    show Steps p.tables e below (T2.setTop (mkF m 152 #[.val (.int p0), .val (.int p1), .val (.int p2), .val (.int (2 : Int32)), .val (.ref s_UTF8), .val (.int ((own_bnd (p2 &&& (7 : Int32))) + ((p1 &&& (7 : Int32)) - (3 : Int32)))), .unset] [])) _
    refine XS.iload X2.here hx rfl (hb hby at_152) rfl ?_
    show Steps p.tables e below (T2.setTop (mkF m 154 #[.val (.int p0), .val (.int p1), .val (.int p2), .val (.int (2 : Int32)), .val (.ref s_UTF8), .val (.int ((own_bnd (p2 &&& (7 : Int32))) + ((p1 &&& (7 : Int32)) - (3 : Int32)))), .unset] [(.int ((own_bnd (p2 &&& (7 : Int32))) + ((p1 &&& (7 : Int32)) - (3 : Int32))))])) _
    refine X2.ldcInt hx hown (mvT hZ (hw _ (List.mem_of_getElem? (i := 25) rfl))) (g := (mkF m 154 #[.val (.int p0), .val (.int p1), .val (.int p2), .val (.int (2 : Int32)), .val (.ref s_UTF8), .val (.int ((own_bnd (p2 &&& (7 : Int32))) + ((p1 &&& (7 : Int32)) - (3 : Int32)))), .unset] [(.int ((own_bnd (p2 &&& (7 : Int32))) + ((p1 &&& (7 : Int32)) - (3 : Int32))))])) rfl (hb hby at_154) _ ?_
    show Steps p.tables e below (T2.setTop (mkF m 156 #[.val (.int p0), .val (.int p1), .val (.int p2), .val (.int (2 : Int32)), .val (.ref s_UTF8), .val (.int ((own_bnd (p2 &&& (7 : Int32))) + ((p1 &&& (7 : Int32)) - (3 : Int32)))), .unset] [(.int (1114111 : Int32)), (.int ((own_bnd (p2 &&& (7 : Int32))) + ((p1 &&& (7 : Int32)) - (3 : Int32))))])) _
    refine XS.icmpYes X2.here hx rfl (pc0 := 156) (pc' := 163) rfl (hb hby at_156) rfl hc_gt_1114111 (by decide) (by decide) ?_
    show Steps p.tables e below (T2.setTop (mkF m 163 #[.val (.int p0), .val (.int p1), .val (.int p2), .val (.int (2 : Int32)), .val (.ref s_UTF8), .val (.int ((own_bnd (p2 &&& (7 : Int32))) + ((p1 &&& (7 : Int32)) - (3 : Int32)))), .unset] [])) _
    refine XS.iconst X2.here hx rfl (hb hby at_163) ?_
    show Steps p.tables e below (T2.setTop (mkF m 164 #[.val (.int p0), .val (.int p1), .val (.int p2), .val (.int (2 : Int32)), .val (.ref s_UTF8), .val (.int ((own_bnd (p2 &&& (7 : Int32))) + ((p1 &&& (7 : Int32)) - (3 : Int32)))), .unset] [(.int (0 : Int32))])) _
    refine XS.istore X2.here hx rfl (hb hby at_164) rfl (l' := #[.val (.int p0), .val (.int p1), .val (.int p2), .val (.int (2 : Int32)), .val (.ref s_UTF8), .val (.int ((own_bnd (p2 &&& (7 : Int32))) + ((p1 &&& (7 : Int32)) - (3 : Int32)))), .val (.int (0 : Int32))]) rfl ?_
    show Steps p.tables e below (T2.setTop (mkF m 166 #[.val (.int p0), .val (.int p1), .val (.int p2), .val (.int (2 : Int32)), .val (.ref s_UTF8), .val (.int ((own_bnd (p2 &&& (7 : Int32))) + ((p1 &&& (7 : Int32)) - (3 : Int32)))), .val (.int (0 : Int32))] [])) _
    refine XS.aload X2.here hx rfl (hb hby at_166) rfl rfl ?_
    show Steps p.tables e below (T2.setTop (mkF m 168 #[.val (.int p0), .val (.int p1), .val (.int p2), .val (.int (2 : Int32)), .val (.ref s_UTF8), .val (.int ((own_bnd (p2 &&& (7 : Int32))) + ((p1 &&& (7 : Int32)) - (3 : Int32)))), .val (.int (0 : Int32))] [(.ref s_UTF8)])) _
    refine XS.iload X2.here hx rfl (hb hby at_168) rfl ?_
    show Steps p.tables e below (T2.setTop (mkF m 170 #[.val (.int p0), .val (.int p1), .val (.int p2), .val (.int (2 : Int32)), .val (.ref s_UTF8), .val (.int ((own_bnd (p2 &&& (7 : Int32))) + ((p1 &&& (7 : Int32)) - (3 : Int32)))), .val (.int (0 : Int32))] [(.int ((own_bnd (p2 &&& (7 : Int32))) + ((p1 &&& (7 : Int32)) - (3 : Int32)))), (.ref s_UTF8)])) _
    refine st3.trans ?_
    show Steps p.tables e below (T3.setTop (mkF m 173 #[.val (.int p0), .val (.int p1), .val (.int p2), .val (.int (2 : Int32)), .val (.ref s_UTF8), .val (.int ((own_bnd (p2 &&& (7 : Int32))) + ((p1 &&& (7 : Int32)) - (3 : Int32)))), .val (.int (0 : Int32))] [(.int (0 : Int32))])) _
    refine XS.iload X3.here hx rfl (hb hby at_173) rfl ?_
    show Steps p.tables e below (T3.setTop (mkF m 175 #[.val (.int p0), .val (.int p1), .val (.int p2), .val (.int (2 : Int32)), .val (.ref s_UTF8), .val (.int ((own_bnd (p2 &&& (7 : Int32))) + ((p1 &&& (7 : Int32)) - (3 : Int32)))), .val (.int (0 : Int32))] [(.int (0 : Int32)), (.int (0 : Int32))])) _
    refine XS.icmpNo X3.here hx rfl (hb hby at_175) rfl (by decide +kernel) ?_
    show Steps p.tables e below (T3.setTop (mkF m 178 #[.val (.int p0), .val (.int p1), .val (.int p2), .val (.int (2 : Int32)), .val (.ref s_UTF8), .val (.int ((own_bnd (p2 &&& (7 : Int32))) + ((p1 &&& (7 : Int32)) - (3 : Int32)))), .val (.int (0 : Int32))] [])) _
    refine XS.iconst X3.here hx rfl (hb hby at_178) ?_
    show Steps p.tables e below (T3.setTop (mkF m 179 #[.val (.int p0), .val (.int p1), .val (.int p2), .val (.int (2 : Int32)), .val (.ref s_UTF8), .val (.int ((own_bnd (p2 &&& (7 : Int32))) + ((p1 &&& (7 : Int32)) - (3 : Int32)))), .val (.int (0 : Int32))] [(.int (1 : Int32))])) _
    refine XS.goto X3.here hx rfl (pc0 := 179) (pc' := 183) rfl (hb hby at_179) (by decide) (by decide) ?_
    show Steps p.tables e below (T3.setTop (mkF m 183 #[.val (.int p0), .val (.int p1), .val (.int p2), .val (.int (2 : Int32)), .val (.ref s_UTF8), .val (.int ((own_bnd (p2 &&& (7 : Int32))) + ((p1 &&& (7 : Int32)) - (3 : Int32)))), .val (.int (0 : Int32))] [(.int (1 : Int32))])) _
    exact retN X3 hx (t := .boolean) Bd.returns (by simp) (hb hby at_183) hr
  · exact ⟨rfl, N3, e3⟩
set_option maxRecDepth 65536 in
set_option maxHeartbeats 40000000 in
theorem r50 (l : Launch) (Z : State) (a0 : Array Value) (hw : ∀ d ∈ tables_1, d.before a0 Z = true) (ws : List Jvm.Cond) (h0 : Heap) (n0 : Nat) (s_IA5 : Addr) (s_BMP : Addr) (s_UTF8 : Addr) (K : Ctx Z h0 s_IA5 s_BMP s_UTF8) (p1 : Int32) (hc_lt_0 : ifCond.holds .lt p1 = true) :
    MetFree l (⟨"com/example/plainwire/plainwire/definitions/Repertoire", "holds", "(I)Z"⟩ : MethodName) (head1 (Jvm.Cond.code (⟨"com/example/plainwire/plainwire/definitions/Repertoire", "holds", "(I)Z"⟩ : MethodName) prog_37_method_5_code 2 (some .boolean) :: ws) ({ frames := 0, cells := 0, slots := 0, locals := 0 } : Room)) (fun a U => a = #[(.ref s_UTF8), (.int p1)] ∧ Z.Warmed39 U.vm ∧ U.heap = h0) (fun _ _ _ _ _ => True) (fun _ U o U' => ∃ v L, o = .returned v ∧ QV (.int (0 : Int32)) h0 n0 v U'.heap L ∧ FrameEnd U o U' L ({ frames := 0, cells := 0, slots := 0, locals := 0 } : Room).cells ({ frames := 0, cells := 0, slots := 0, locals := 0 } : Room).slots) := by
  obtain ⟨S_IA5, E_IA5, F_IA5_lastCodePoint, S_BMP, E_BMP, F_BMP_lastCodePoint, S_UTF8, E_UTF8, F_UTF8_lastCodePoint⟩ := id K
  refine MetFree.of_bodySF (plainFor_of_name pn1) hisR ?_
  intro p e s m args below meth c s₁ Bd hml0 hP hK
  obtain ⟨rfl, hZ, hh⟩ := hP
  have hx := Bd.exec
  have hby := Bd.bytes
  have hml : c.maxLocals = 2 := hml0
  have hown : s.vm.findClass "com/example/plainwire/plainwire/definitions/Repertoire" = some m.cls := findClass_of_methodNamed Bd.named
  have X0 : Stand p l e ({ frames := 0, cells := 0, slots := 0, locals := 0 } : Room) s m #[(.ref s_UTF8), (.int p1)] below meth c s₁ [] 0 0 := Stand.of_body Bd
  have e0 : s₁.heap = h0 := by rw [← hh, Bd.state]; rfl
  have N0 := Fr.nil n0
  have pre0 : ∀ t, Steps p.tables e below (s₁.setTop (mkF m 0 #[.val (.ref s_UTF8), .val (.int p1)] [])) t → Steps p.tables e below (s₁.setTop (entryFrame m #[(.ref s_UTF8), (.int p1)] 2)) t := fun t k => castTop (by first | (simp [entryFrame, mkF, argsToLocals, Value.category]; done) | rfl) k
  obtain ⟨fs, hr, hrun, hended, hW, hsame⟩ := X0.leave (v := some (.int (0 : Int32))) (fun h => by rw [Bd.returns] at h; cases h)
  refine ⟨_, _, pre0 _ ?_, hrun, hended, _, _, rfl, ?_, ⟨_, rfl⟩, hW, hsame.mono (by decide) (by decide)⟩
  · show Steps p.tables e below (s₁.setTop (mkF m 0 #[.val (.ref s_UTF8), .val (.int p1)] [])) _
    refine XS.iloadN X0.here hx rfl (hb hby d1_0) rfl ?_
    show Steps p.tables e below (s₁.setTop (mkF m 1 #[.val (.ref s_UTF8), .val (.int p1)] [(.int p1)])) _
    refine XS.ifYes X0.here hx rfl (pc0 := 1) (pc' := 28) rfl (hb hby d1_1) rfl hc_lt_0 (by decide) (by decide) ?_
    show Steps p.tables e below (s₁.setTop (mkF m 28 #[.val (.ref s_UTF8), .val (.int p1)] [])) _
    refine XS.iconst X0.here hx rfl (hb hby d1_28) ?_
    show Steps p.tables e below (s₁.setTop (mkF m 29 #[.val (.ref s_UTF8), .val (.int p1)] [(.int (0 : Int32))])) _
    exact retN X0 hx (t := .boolean) Bd.returns (by simp) (hb hby d1_29) hr
  · exact ⟨rfl, N0, e0⟩
set_option maxRecDepth 65536 in
set_option maxHeartbeats 40000000 in
theorem law_k2_8_0 (l : Launch) (Z : State) (a0 : Array Value) (hw : ∀ d ∈ tables_1, d.before a0 Z = true) (ws : List Jvm.Cond) (h0 : Heap) (n0 : Nat) (s_IA5 : Addr) (s_BMP : Addr) (s_UTF8 : Addr) (K : Ctx Z h0 s_IA5 s_BMP s_UTF8) (p0 : Int32) (p1 : Int32) (p2 : Int32) (ha : ((p0 &&& (2147483647 : Int32)) % (3 : Int32)) = (2 : Int32)) (hb1 : (p2 &&& (8 : Int32)) = (8 : Int32)) (hc_lt_0 : ifCond.holds .lt p1 = true) (hc_lt_57344 : if_icmp.holds .lt p1 (57344 : Int32) = true) :
    MetFree l x (head1 (Jvm.Cond.code x code maxLocals ret :: ws) room_1) (fun a U => a = #[(.int p0), (.int p1), (.int p2)] ∧ Z.Warmed39 U.vm ∧ U.heap = h0) (fun _ _ _ _ _ => True) (fun _ U o U' => ∃ v L, o = .returned v ∧ QV (.int (1 : Int32)) h0 n0 v U'.heap L ∧ FrameEnd U o U' L room_1.cells room_1.slots) := by
  obtain ⟨S_IA5, E_IA5, F_IA5_lastCodePoint, S_BMP, E_BMP, F_BMP_lastCodePoint, S_UTF8, E_UTF8, F_UTF8_lastCodePoint⟩ := id K
  refine MetFree.of_bodySF (plainFor_of_name pn2) hisR ?_
  intro p e s m args below meth c s₁ Bd hml0 hP hK
  obtain ⟨rfl, hZ, hh⟩ := hP
  have hx := Bd.exec
  have hby := Bd.bytes
  have hml : c.maxLocals = 7 := hml0
  have hown : s.vm.findClass "com/example/plainwire/plainwire/definitions/RepertoireHoldsPinLaw" = some m.cls := findClass_of_methodNamed Bd.named
  have X0 : Stand p l e room_1 s m #[(.int p0), (.int p1), (.int p2)] below meth c s₁ [] 0 0 := Stand.of_body Bd
  have e0 : s₁.heap = h0 := by rw [← hh, Bd.state]; rfl
  have N0 := Fr.nil n0
  have pre0 : ∀ t, Steps p.tables e below (s₁.setTop (mkF m 0 #[.val (.int p0), .val (.int p1), .val (.int p2), .unset, .unset, .unset, .unset] [])) t → Steps p.tables e below (s₁.setTop (entryFrame m #[(.int p0), (.int p1), (.int p2)] maxLocals)) t := fun t k => castTop (by first | (simp [entryFrame, mkF, argsToLocals, Value.category, maxLocals]; done) | rfl) k
  obtain ⟨T1, X1, e1, st1⟩ := getS X0 hx hZ hown (host := "") (hw _ (List.mem_of_getElem? (i := 23) rfl)) Via.refl e0 S_UTF8 (g := (mkF m 32 #[.val (.int p0), .val (.int p1), .val (.int p2), .val (.int (2 : Int32)), .unset, .unset, .unset] [])) rfl (hb hby at_32)
  obtain ⟨cq2, kq2, q2a, q2b, q2c⟩ := isOf hZ e1 E_UTF8
  obtain ⟨_, _, ⟨T2, L2, k2, n2⟩, -, X2, ⟨Lc2, hQ2, l2, y2, z2⟩, st2⟩ := X1.virtualBack hx (y := (⟨"com/example/plainwire/plainwire/definitions/Repertoire", "holds", "(I)Z"⟩ : MethodName)) (z := (⟨"com/example/plainwire/plainwire/definitions/Repertoire", "holds", "(I)Z"⟩ : MethodName)) hown (mvT hZ (hw _ (List.mem_of_getElem? (i := 9) rfl))) (mvT hZ (hw _ (List.mem_of_getElem? (i := 10) rfl))) (notFace_of_selects (args := #[]) (mvT hZ (hw _ (List.mem_of_getElem? (i := 12) rfl)))) (mvT hZ (hw _ (List.mem_of_getElem? (i := 12) rfl))) (mvT hZ (hw _ (List.mem_of_getElem? (i := 11) rfl))) (by decide) (backOf (W := 0) (r50 l Z a0 hw [] h0 n0 s_IA5 s_BMP s_UTF8 K p1 hc_lt_0) hZ (hw _ (List.mem_of_getElem? (i := 13) rfl)) (hw _ (List.mem_of_getElem? (i := 2) rfl)) (by decide) (by decide)) q2a q2c (g := (mkF m 170 #[.val (.int p0), .val (.int p1), .val (.int p2), .val (.int (2 : Int32)), .val (.ref s_UTF8), .val (.int p1), .val (.int (0 : Int32))] [(.int p1), (.ref s_UTF8)])) rfl (by rw [hml]; rfl) (Steps.refl _) (argsL := [(.int p1)]) (rest := []) (lenOf pd1 rfl) rfl (by show 2 * 0 + _ ≤ _; exact Nat.le_of_eq rfl) (hb hby at_170) (fun _ _ => ⟨rfl, e1, (by decide : 0 + 0 ≤ _), (by decide : 0 + 0 ≤ _)⟩)
  dsimp only [Pt.U, Pt.locs, Pt.cells, Pt.slots] at X2 l2 y2 z2 st2 hQ2
  subst l2 y2 z2
  obtain ⟨rfl, N2q, e2⟩ := hQ2
  have N2 := Fr.app N0 N2q
  obtain ⟨fs, hr, hrun, hended, hW, hsame⟩ := X2.leave (v := some (.int (1 : Int32))) (fun h => by rw [Bd.returns] at h; cases h)
  refine ⟨_, _, pre0 _ ?_, hrun, hended, _, _, rfl, ?_, ⟨_, rfl⟩, hW, hsame.mono (by decide) (by decide)⟩
  · show Steps p.tables e below (s₁.setTop (mkF m 0 #[.val (.int p0), .val (.int p1), .val (.int p2), .unset, .unset, .unset, .unset] [])) _
    refine XS.iloadN X0.here hx rfl (hb hby at_0) rfl ?_
    show Steps p.tables e below (s₁.setTop (mkF m 1 #[.val (.int p0), .val (.int p1), .val (.int p2), .unset, .unset, .unset, .unset] [(.int p0)])) _
    refine X0.ldcInt hx hown (mvT hZ (hw _ (List.mem_of_getElem? (i := 0) rfl))) (g := (mkF m 1 #[.val (.int p0), .val (.int p1), .val (.int p2), .unset, .unset, .unset, .unset] [(.int p0)])) rfl (hb hby at_1) _ ?_
    show Steps p.tables e below (s₁.setTop (mkF m 3 #[.val (.int p0), .val (.int p1), .val (.int p2), .unset, .unset, .unset, .unset] [(.int (2147483647 : Int32)), (.int p0)])) _
    refine XS.iand X0.here hx rfl (hb hby at_3) rfl ?_
    show Steps p.tables e below (s₁.setTop (mkF m 4 #[.val (.int p0), .val (.int p1), .val (.int p2), .unset, .unset, .unset, .unset] [(.int (p0 &&& (2147483647 : Int32)))])) _
    refine XS.iconst X0.here hx rfl (hb hby at_4) ?_
    show Steps p.tables e below (s₁.setTop (mkF m 5 #[.val (.int p0), .val (.int p1), .val (.int p2), .unset, .unset, .unset, .unset] [(.int (3 : Int32)), (.int (p0 &&& (2147483647 : Int32)))])) _
    refine Jvm.RoadKit.iremM X0 hx rfl (hb hby at_5) rfl (by decide) ?_
    show Steps p.tables e below (s₁.setTop (mkF m 6 #[.val (.int p0), .val (.int p1), .val (.int p2), .unset, .unset, .unset, .unset] [(.int ((p0 &&& (2147483647 : Int32)) % (3 : Int32)))])) _
    rw [ha]
    show Steps p.tables e below (s₁.setTop (mkF m 6 #[.val (.int p0), .val (.int p1), .val (.int p2), .unset, .unset, .unset, .unset] [(.int (2 : Int32))])) _
    refine XS.istoreN X0.here hx rfl (hb hby at_6) rfl (l' := #[.val (.int p0), .val (.int p1), .val (.int p2), .val (.int (2 : Int32)), .unset, .unset, .unset]) rfl ?_
    show Steps p.tables e below (s₁.setTop (mkF m 7 #[.val (.int p0), .val (.int p1), .val (.int p2), .val (.int (2 : Int32)), .unset, .unset, .unset] [])) _
    refine XS.iloadN X0.here hx rfl (hb hby at_7) rfl ?_
    show Steps p.tables e below (s₁.setTop (mkF m 8 #[.val (.int p0), .val (.int p1), .val (.int p2), .val (.int (2 : Int32)), .unset, .unset, .unset] [(.int (2 : Int32))])) _
    refine XS.ifYes X0.here hx rfl (pc0 := 8) (pc' := 19) rfl (hb hby at_8) rfl (by decide +kernel) (by decide) (by decide) ?_
    show Steps p.tables e below (s₁.setTop (mkF m 19 #[.val (.int p0), .val (.int p1), .val (.int p2), .val (.int (2 : Int32)), .unset, .unset, .unset] [])) _
    refine XS.iloadN X0.here hx rfl (hb hby at_19) rfl ?_
    show Steps p.tables e below (s₁.setTop (mkF m 20 #[.val (.int p0), .val (.int p1), .val (.int p2), .val (.int (2 : Int32)), .unset, .unset, .unset] [(.int (2 : Int32))])) _
    refine XS.iconst X0.here hx rfl (hb hby at_20) ?_
    show Steps p.tables e below (s₁.setTop (mkF m 21 #[.val (.int p0), .val (.int p1), .val (.int p2), .val (.int (2 : Int32)), .unset, .unset, .unset] [(.int (1 : Int32)), (.int (2 : Int32))])) _
    refine XS.icmpYes X0.here hx rfl (pc0 := 21) (pc' := 32) rfl (hb hby at_21) rfl (by decide +kernel) (by decide) (by decide) ?_
    show Steps p.tables e below (s₁.setTop (mkF m 32 #[.val (.int p0), .val (.int p1), .val (.int p2), .val (.int (2 : Int32)), .unset, .unset, .unset] [])) _
    refine st1 _ ?_
    show Steps p.tables e below (T1.setTop (mkF m 35 #[.val (.int p0), .val (.int p1), .val (.int p2), .val (.int (2 : Int32)), .unset, .unset, .unset] [(.ref s_UTF8)])) _
    refine XS.astore X1.here hx rfl (hb hby at_35) rfl rfl (l' := #[.val (.int p0), .val (.int p1), .val (.int p2), .val (.int (2 : Int32)), .val (.ref s_UTF8), .unset, .unset]) rfl ?_
    show Steps p.tables e below (T1.setTop (mkF m 37 #[.val (.int p0), .val (.int p1), .val (.int p2), .val (.int (2 : Int32)), .val (.ref s_UTF8), .unset, .unset] [])) _
    refine XS.iloadN X1.here hx rfl (hb hby at_37) rfl ?_
    show Steps p.tables e below (T1.setTop (mkF m 38 #[.val (.int p0), .val (.int p1), .val (.int p2), .val (.int (2 : Int32)), .val (.ref s_UTF8), .unset, .unset] [(.int p2)])) _
    refine XS.bipush X1.here hx rfl (hb hby at_38) ?_
    show Steps p.tables e below (T1.setTop (mkF m 40 #[.val (.int p0), .val (.int p1), .val (.int p2), .val (.int (2 : Int32)), .val (.ref s_UTF8), .unset, .unset] [(.int (8 : Int32)), (.int p2)])) _
    refine XS.iand X1.here hx rfl (hb hby at_40) rfl ?_
    show Steps p.tables e below (T1.setTop (mkF m 41 #[.val (.int p0), .val (.int p1), .val (.int p2), .val (.int (2 : Int32)), .val (.ref s_UTF8), .unset, .unset] [(.int (p2 &&& (8 : Int32)))])) _
    rw [hb1]
    show Steps p.tables e below (T1.setTop (mkF m 41 #[.val (.int p0), .val (.int p1), .val (.int p2), .val (.int (2 : Int32)), .val (.ref s_UTF8), .unset, .unset] [(.int (8 : Int32))])) _
    refine XS.ifNo X1.here hx rfl (hb hby at_41) rfl (by decide +kernel) ?_
    show Steps p.tables e below (T1.setTop (mkF m 44 #[.val (.int p0), .val (.int p1), .val (.int p2), .val (.int (2 : Int32)), .val (.ref s_UTF8), .unset, .unset] [])) _
    refine XS.iloadN X1.here hx rfl (hb hby at_44) rfl ?_
    show Steps p.tables e below (T1.setTop (mkF m 45 #[.val (.int p0), .val (.int p1), .val (.int p2), .val (.int (2 : Int32)), .val (.ref s_UTF8), .unset, .unset] [(.int p1)])) _
    refine XS.istore X1.here hx rfl (hb hby at_45) rfl (l' := #[.val (.int p0), .val (.int p1), .val (.int p2), .val (.int (2 : Int32)), .val (.ref s_UTF8), .val (.int p1), .unset]) rfl ?_
    show Steps p.tables e below (T1.setTop (mkF m 47 #[.val (.int p0), .val (.int p1), .val (.int p2), .val (.int (2 : Int32)), .val (.ref s_UTF8), .val (.int p1), .unset] [])) _
    refine XS.goto X1.here hx rfl (pc0 := 47) (pc' := 66) rfl (hb hby at_47) (by decide) (by decide) ?_
    show Steps p.tables e below (T1.setTop (mkF m 66 #[.val (.int p0), .val (.int p1), .val (.int p2), .val (.int (2 : Int32)), .val (.ref s_UTF8), .val (.int p1), .unset] [])) _
    refine XS.iloadN X1.here hx rfl (hb hby at_66) rfl ?_
    show Steps p.tables e below (T1.setTop (mkF m 67 #[.val (.int p0), .val (.int p1), .val (.int p2), .val (.int (2 : Int32)), .val (.ref s_UTF8), .val (.int p1), .unset] [(.int (2 : Int32))])) _
    refine XS.ifYes X1.here hx rfl (pc0 := 67) (pc' := 92) rfl (hb hby at_67) rfl (by decide +kernel) (by decide) (by decide) ?_
    show Steps p.tables e below (T1.setTop (mkF m 92 #[.val (.int p0), .val (.int p1), .val (.int p2), .val (.int (2 : Int32)), .val (.ref s_UTF8), .val (.int p1), .unset] [])) _
    refine XS.iloadN X1.here hx rfl (hb hby at_92) rfl ?_
    show Steps p.tables e below (T1.setTop (mkF m 93 #[.val (.int p0), .val (.int p1), .val (.int p2), .val (.int (2 : Int32)), .val (.ref s_UTF8), .val (.int p1), .unset] [(.int (2 : Int32))])) _
    refine XS.iconst X1.here hx rfl (hb hby at_93) ?_
    show Steps p.tables e below (T1.setTop (mkF m 94 #[.val (.int p0), .val (.int p1), .val (.int p2), .val (.int (2 : Int32)), .val (.ref s_UTF8), .val (.int p1), .unset] [(.int (1 : Int32)), (.int (2 : Int32))])) _
    refine XS.icmpYes X1.here hx rfl (pc0 := 94) (pc' := 133) rfl (hb hby at_94) rfl (by decide +kernel) (by decide) (by decide) ?_
    show Steps p.tables e below (T1.setTop (mkF m 133 #[.val (.int p0), .val (.int p1), .val (.int p2), .val (.int (2 : Int32)), .val (.ref s_UTF8), .val (.int p1), .unset] [])) _
    refine XS.iload X1.here hx rfl (hb hby at_133) rfl ?_
    show Steps p.tables e below (T1.setTop (mkF m 135 #[.val (.int p0), .val (.int p1), .val (.int p2), .val (.int (2 : Int32)), .val (.ref s_UTF8), .val (.int p1), .unset] [(.int p1)])) _
    refine XS.ifYes X1.here hx rfl (pc0 := 135) (pc' := 145) rfl (hb hby at_135) rfl hc_lt_0 (by decide) (by decide) ?_
    show Steps p.tables e below (T1.setTop (mkF m 145 #[.val (.int p0), .val (.int p1), .val (.int p2), .val (.int (2 : Int32)), .val (.ref s_UTF8), .val (.int p1), .unset] [])) _
    refine XS.iload X1.here hx rfl (hb hby at_145) rfl ?_
    show Steps p.tables e below (T1.setTop (mkF m 147 #[.val (.int p0), .val (.int p1), .val (.int p2), .val (.int (2 : Int32)), .val (.ref s_UTF8), .val (.int p1), .unset] [(.int p1)])) _
    refine X1.ldcInt hx hown (mvT hZ (hw _ (List.mem_of_getElem? (i := 19) rfl))) (g := (mkF m 147 #[.val (.int p0), .val (.int p1), .val (.int p2), .val (.int (2 : Int32)), .val (.ref s_UTF8), .val (.int p1), .unset] [(.int p1)])) rfl (hb hby at_147) _ ?_
    show Steps p.tables e below (T1.setTop (mkF m 149 #[.val (.int p0), .val (.int p1), .val (.int p2), .val (.int (2 : Int32)), .val (.ref s_UTF8), .val (.int p1), .unset] [(.int (57344 : Int32)), (.int p1)])) _
    refine XS.icmpYes X1.here hx rfl (pc0 := 149) (pc' := 163) rfl (hb hby at_149) rfl hc_lt_57344 (by decide) (by decide) ?_
    show Steps p.tables e below (T1.setTop (mkF m 163 #[.val (.int p0), .val (.int p1), .val (.int p2), .val (.int (2 : Int32)), .val (.ref s_UTF8), .val (.int p1), .unset] [])) _
    refine XS.iconst X1.here hx rfl (hb hby at_163) ?_
    show Steps p.tables e below (T1.setTop (mkF m 164 #[.val (.int p0), .val (.int p1), .val (.int p2), .val (.int (2 : Int32)), .val (.ref s_UTF8), .val (.int p1), .unset] [(.int (0 : Int32))])) _
    refine XS.istore X1.here hx rfl (hb hby at_164) rfl (l' := #[.val (.int p0), .val (.int p1), .val (.int p2), .val (.int (2 : Int32)), .val (.ref s_UTF8), .val (.int p1), .val (.int (0 : Int32))]) rfl ?_
    show Steps p.tables e below (T1.setTop (mkF m 166 #[.val (.int p0), .val (.int p1), .val (.int p2), .val (.int (2 : Int32)), .val (.ref s_UTF8), .val (.int p1), .val (.int (0 : Int32))] [])) _
    refine XS.aload X1.here hx rfl (hb hby at_166) rfl rfl ?_
    show Steps p.tables e below (T1.setTop (mkF m 168 #[.val (.int p0), .val (.int p1), .val (.int p2), .val (.int (2 : Int32)), .val (.ref s_UTF8), .val (.int p1), .val (.int (0 : Int32))] [(.ref s_UTF8)])) _
    refine XS.iload X1.here hx rfl (hb hby at_168) rfl ?_
    show Steps p.tables e below (T1.setTop (mkF m 170 #[.val (.int p0), .val (.int p1), .val (.int p2), .val (.int (2 : Int32)), .val (.ref s_UTF8), .val (.int p1), .val (.int (0 : Int32))] [(.int p1), (.ref s_UTF8)])) _
    refine st2.trans ?_
    show Steps p.tables e below (T2.setTop (mkF m 173 #[.val (.int p0), .val (.int p1), .val (.int p2), .val (.int (2 : Int32)), .val (.ref s_UTF8), .val (.int p1), .val (.int (0 : Int32))] [(.int (0 : Int32))])) _
    refine XS.iload X2.here hx rfl (hb hby at_173) rfl ?_
    show Steps p.tables e below (T2.setTop (mkF m 175 #[.val (.int p0), .val (.int p1), .val (.int p2), .val (.int (2 : Int32)), .val (.ref s_UTF8), .val (.int p1), .val (.int (0 : Int32))] [(.int (0 : Int32)), (.int (0 : Int32))])) _
    refine XS.icmpNo X2.here hx rfl (hb hby at_175) rfl (by decide +kernel) ?_
    show Steps p.tables e below (T2.setTop (mkF m 178 #[.val (.int p0), .val (.int p1), .val (.int p2), .val (.int (2 : Int32)), .val (.ref s_UTF8), .val (.int p1), .val (.int (0 : Int32))] [])) _
    refine XS.iconst X2.here hx rfl (hb hby at_178) ?_
    show Steps p.tables e below (T2.setTop (mkF m 179 #[.val (.int p0), .val (.int p1), .val (.int p2), .val (.int (2 : Int32)), .val (.ref s_UTF8), .val (.int p1), .val (.int (0 : Int32))] [(.int (1 : Int32))])) _
    refine XS.goto X2.here hx rfl (pc0 := 179) (pc' := 183) rfl (hb hby at_179) (by decide) (by decide) ?_
    show Steps p.tables e below (T2.setTop (mkF m 183 #[.val (.int p0), .val (.int p1), .val (.int p2), .val (.int (2 : Int32)), .val (.ref s_UTF8), .val (.int p1), .val (.int (0 : Int32))] [(.int (1 : Int32))])) _
    exact retN X2 hx (t := .boolean) Bd.returns (by simp) (hb hby at_183) hr
  · exact ⟨rfl, N2, e2⟩
set_option maxRecDepth 65536 in
set_option maxHeartbeats 40000000 in
theorem r52 (l : Launch) (Z : State) (a0 : Array Value) (hw : ∀ d ∈ tables_1, d.before a0 Z = true) (ws : List Jvm.Cond) (h0 : Heap) (n0 : Nat) (s_IA5 : Addr) (s_BMP : Addr) (s_UTF8 : Addr) (K : Ctx Z h0 s_IA5 s_BMP s_UTF8) (p1 : Int32) (hc_lt_0 : ifCond.holds .lt p1 = false) (hc_gt_1114111 : if_icmp.holds .gt p1 (1114111 : Int32) = false) (hc_lt_55296 : if_icmp.holds .lt p1 (55296 : Int32) = true) :
    MetFree l (⟨"com/example/plainwire/plainwire/definitions/Repertoire", "holds", "(I)Z"⟩ : MethodName) (head1 (Jvm.Cond.code (⟨"com/example/plainwire/plainwire/definitions/Repertoire", "holds", "(I)Z"⟩ : MethodName) prog_37_method_5_code 2 (some .boolean) :: ws) ({ frames := 0, cells := 0, slots := 0, locals := 0 } : Room)) (fun a U => a = #[(.ref s_UTF8), (.int p1)] ∧ Z.Warmed39 U.vm ∧ U.heap = h0) (fun _ _ _ _ _ => True) (fun _ U o U' => ∃ v L, o = .returned v ∧ QV (.int (1 : Int32)) h0 n0 v U'.heap L ∧ FrameEnd U o U' L ({ frames := 0, cells := 0, slots := 0, locals := 0 } : Room).cells ({ frames := 0, cells := 0, slots := 0, locals := 0 } : Room).slots) := by
  obtain ⟨S_IA5, E_IA5, F_IA5_lastCodePoint, S_BMP, E_BMP, F_BMP_lastCodePoint, S_UTF8, E_UTF8, F_UTF8_lastCodePoint⟩ := id K
  refine MetFree.of_bodySF (plainFor_of_name pn1) hisR ?_
  intro p e s m args below meth c s₁ Bd hml0 hP hK
  obtain ⟨rfl, hZ, hh⟩ := hP
  have hx := Bd.exec
  have hby := Bd.bytes
  have hml : c.maxLocals = 2 := hml0
  have hown : s.vm.findClass "com/example/plainwire/plainwire/definitions/Repertoire" = some m.cls := findClass_of_methodNamed Bd.named
  have X0 : Stand p l e ({ frames := 0, cells := 0, slots := 0, locals := 0 } : Room) s m #[(.ref s_UTF8), (.int p1)] below meth c s₁ [] 0 0 := Stand.of_body Bd
  have e0 : s₁.heap = h0 := by rw [← hh, Bd.state]; rfl
  have N0 := Fr.nil n0
  have pre0 : ∀ t, Steps p.tables e below (s₁.setTop (mkF m 0 #[.val (.ref s_UTF8), .val (.int p1)] [])) t → Steps p.tables e below (s₁.setTop (entryFrame m #[(.ref s_UTF8), (.int p1)] 2)) t := fun t k => castTop (by first | (simp [entryFrame, mkF, argsToLocals, Value.category]; done) | rfl) k
  obtain ⟨T1, X1, e1, st1⟩ := getF X0 hx hZ hown (host := "") (Or.inl (hw _ (List.mem_of_getElem? (i := 14) rfl))) Via.refl e0 F_UTF8_lastCodePoint (g := (mkF m 6 #[.val (.ref s_UTF8), .val (.int p1)] [(.ref s_UTF8), (.int p1)])) rfl rfl (hb hby d1_6)
  obtain ⟨fs, hr, hrun, hended, hW, hsame⟩ := X1.leave (v := some (.int (1 : Int32))) (fun h => by rw [Bd.returns] at h; cases h)
  refine ⟨_, _, pre0 _ ?_, hrun, hended, _, _, rfl, ?_, ⟨_, rfl⟩, hW, hsame.mono (by decide) (by decide)⟩
  · show Steps p.tables e below (s₁.setTop (mkF m 0 #[.val (.ref s_UTF8), .val (.int p1)] [])) _
    refine XS.iloadN X0.here hx rfl (hb hby d1_0) rfl ?_
    show Steps p.tables e below (s₁.setTop (mkF m 1 #[.val (.ref s_UTF8), .val (.int p1)] [(.int p1)])) _
    refine XS.ifNo X0.here hx rfl (hb hby d1_1) rfl hc_lt_0 ?_
    show Steps p.tables e below (s₁.setTop (mkF m 4 #[.val (.ref s_UTF8), .val (.int p1)] [])) _
    refine XS.iloadN X0.here hx rfl (hb hby d1_4) rfl ?_
    show Steps p.tables e below (s₁.setTop (mkF m 5 #[.val (.ref s_UTF8), .val (.int p1)] [(.int p1)])) _
    refine XS.aloadN X0.here hx rfl (hb hby d1_5) rfl rfl ?_
    show Steps p.tables e below (s₁.setTop (mkF m 6 #[.val (.ref s_UTF8), .val (.int p1)] [(.ref s_UTF8), (.int p1)])) _
    refine st1 _ ?_
    show Steps p.tables e below (T1.setTop (mkF m 9 #[.val (.ref s_UTF8), .val (.int p1)] [(.int (1114111 : Int32)), (.int p1)])) _
    refine XS.icmpNo X1.here hx rfl (hb hby d1_9) rfl hc_gt_1114111 ?_
    show Steps p.tables e below (T1.setTop (mkF m 12 #[.val (.ref s_UTF8), .val (.int p1)] [])) _
    refine XS.iloadN X1.here hx rfl (hb hby d1_12) rfl ?_
    show Steps p.tables e below (T1.setTop (mkF m 13 #[.val (.ref s_UTF8), .val (.int p1)] [(.int p1)])) _
    refine X1.ldcInt hx hown (mvT hZ (hw _ (List.mem_of_getElem? (i := 21) rfl))) (g := (mkF m 13 #[.val (.ref s_UTF8), .val (.int p1)] [(.int p1)])) rfl (hb hby d1_13) _ ?_
    show Steps p.tables e below (T1.setTop (mkF m 15 #[.val (.ref s_UTF8), .val (.int p1)] [(.int (55296 : Int32)), (.int p1)])) _
    refine XS.icmpYes X1.here hx rfl (pc0 := 15) (pc' := 24) rfl (hb hby d1_15) rfl hc_lt_55296 (by decide) (by decide) ?_
    show Steps p.tables e below (T1.setTop (mkF m 24 #[.val (.ref s_UTF8), .val (.int p1)] [])) _
    refine XS.iconst X1.here hx rfl (hb hby d1_24) ?_
    show Steps p.tables e below (T1.setTop (mkF m 25 #[.val (.ref s_UTF8), .val (.int p1)] [(.int (1 : Int32))])) _
    refine XS.goto X1.here hx rfl (pc0 := 25) (pc' := 29) rfl (hb hby d1_25) (by decide) (by decide) ?_
    show Steps p.tables e below (T1.setTop (mkF m 29 #[.val (.ref s_UTF8), .val (.int p1)] [(.int (1 : Int32))])) _
    exact retN X1 hx (t := .boolean) Bd.returns (by simp) (hb hby d1_29) hr
  · exact ⟨rfl, N0, e1⟩
set_option maxRecDepth 65536 in
set_option maxHeartbeats 40000000 in
theorem law_k2_8_1 (l : Launch) (Z : State) (a0 : Array Value) (hw : ∀ d ∈ tables_1, d.before a0 Z = true) (ws : List Jvm.Cond) (h0 : Heap) (n0 : Nat) (s_IA5 : Addr) (s_BMP : Addr) (s_UTF8 : Addr) (K : Ctx Z h0 s_IA5 s_BMP s_UTF8) (p0 : Int32) (p1 : Int32) (p2 : Int32) (ha : ((p0 &&& (2147483647 : Int32)) % (3 : Int32)) = (2 : Int32)) (hb1 : (p2 &&& (8 : Int32)) = (8 : Int32)) (hc_lt_0 : ifCond.holds .lt p1 = false) (hc_lt_55296 : if_icmp.holds .lt p1 (55296 : Int32) = true) (hc_gt_1114111 : if_icmp.holds .gt p1 (1114111 : Int32) = false) :
    MetFree l x (head1 (Jvm.Cond.code x code maxLocals ret :: ws) room_1) (fun a U => a = #[(.int p0), (.int p1), (.int p2)] ∧ Z.Warmed39 U.vm ∧ U.heap = h0) (fun _ _ _ _ _ => True) (fun _ U o U' => ∃ v L, o = .returned v ∧ QV (.int (1 : Int32)) h0 n0 v U'.heap L ∧ FrameEnd U o U' L room_1.cells room_1.slots) := by
  obtain ⟨S_IA5, E_IA5, F_IA5_lastCodePoint, S_BMP, E_BMP, F_BMP_lastCodePoint, S_UTF8, E_UTF8, F_UTF8_lastCodePoint⟩ := id K
  refine MetFree.of_bodySF (plainFor_of_name pn2) hisR ?_
  intro p e s m args below meth c s₁ Bd hml0 hP hK
  obtain ⟨rfl, hZ, hh⟩ := hP
  have hx := Bd.exec
  have hby := Bd.bytes
  have hml : c.maxLocals = 7 := hml0
  have hown : s.vm.findClass "com/example/plainwire/plainwire/definitions/RepertoireHoldsPinLaw" = some m.cls := findClass_of_methodNamed Bd.named
  have X0 : Stand p l e room_1 s m #[(.int p0), (.int p1), (.int p2)] below meth c s₁ [] 0 0 := Stand.of_body Bd
  have e0 : s₁.heap = h0 := by rw [← hh, Bd.state]; rfl
  have N0 := Fr.nil n0
  have pre0 : ∀ t, Steps p.tables e below (s₁.setTop (mkF m 0 #[.val (.int p0), .val (.int p1), .val (.int p2), .unset, .unset, .unset, .unset] [])) t → Steps p.tables e below (s₁.setTop (entryFrame m #[(.int p0), (.int p1), (.int p2)] maxLocals)) t := fun t k => castTop (by first | (simp [entryFrame, mkF, argsToLocals, Value.category, maxLocals]; done) | rfl) k
  obtain ⟨T1, X1, e1, st1⟩ := getS X0 hx hZ hown (host := "") (hw _ (List.mem_of_getElem? (i := 23) rfl)) Via.refl e0 S_UTF8 (g := (mkF m 32 #[.val (.int p0), .val (.int p1), .val (.int p2), .val (.int (2 : Int32)), .unset, .unset, .unset] [])) rfl (hb hby at_32)
  obtain ⟨cq2, kq2, q2a, q2b, q2c⟩ := isOf hZ e1 E_UTF8
  obtain ⟨_, _, ⟨T2, L2, k2, n2⟩, -, X2, ⟨Lc2, hQ2, l2, y2, z2⟩, st2⟩ := X1.virtualBack hx (y := (⟨"com/example/plainwire/plainwire/definitions/Repertoire", "holds", "(I)Z"⟩ : MethodName)) (z := (⟨"com/example/plainwire/plainwire/definitions/Repertoire", "holds", "(I)Z"⟩ : MethodName)) hown (mvT hZ (hw _ (List.mem_of_getElem? (i := 9) rfl))) (mvT hZ (hw _ (List.mem_of_getElem? (i := 10) rfl))) (notFace_of_selects (args := #[]) (mvT hZ (hw _ (List.mem_of_getElem? (i := 12) rfl)))) (mvT hZ (hw _ (List.mem_of_getElem? (i := 12) rfl))) (mvT hZ (hw _ (List.mem_of_getElem? (i := 11) rfl))) (by decide) (backOf (W := 0) (r52 l Z a0 hw [] h0 n0 s_IA5 s_BMP s_UTF8 K p1 hc_lt_0 hc_gt_1114111 hc_lt_55296) hZ (hw _ (List.mem_of_getElem? (i := 13) rfl)) (hw _ (List.mem_of_getElem? (i := 2) rfl)) (by decide) (by decide)) q2a q2c (g := (mkF m 170 #[.val (.int p0), .val (.int p1), .val (.int p2), .val (.int (2 : Int32)), .val (.ref s_UTF8), .val (.int p1), .val (.int (1 : Int32))] [(.int p1), (.ref s_UTF8)])) rfl (by rw [hml]; rfl) (Steps.refl _) (argsL := [(.int p1)]) (rest := []) (lenOf pd1 rfl) rfl (by show 2 * 0 + _ ≤ _; exact Nat.le_of_eq rfl) (hb hby at_170) (fun _ _ => ⟨rfl, e1, (by decide : 0 + 0 ≤ _), (by decide : 0 + 0 ≤ _)⟩)
  dsimp only [Pt.U, Pt.locs, Pt.cells, Pt.slots] at X2 l2 y2 z2 st2 hQ2
  subst l2 y2 z2
  obtain ⟨rfl, N2q, e2⟩ := hQ2
  have N2 := Fr.app N0 N2q
  obtain ⟨fs, hr, hrun, hended, hW, hsame⟩ := X2.leave (v := some (.int (1 : Int32))) (fun h => by rw [Bd.returns] at h; cases h)
  refine ⟨_, _, pre0 _ ?_, hrun, hended, _, _, rfl, ?_, ⟨_, rfl⟩, hW, hsame.mono (by decide) (by decide)⟩
  · show Steps p.tables e below (s₁.setTop (mkF m 0 #[.val (.int p0), .val (.int p1), .val (.int p2), .unset, .unset, .unset, .unset] [])) _
    refine XS.iloadN X0.here hx rfl (hb hby at_0) rfl ?_
    show Steps p.tables e below (s₁.setTop (mkF m 1 #[.val (.int p0), .val (.int p1), .val (.int p2), .unset, .unset, .unset, .unset] [(.int p0)])) _
    refine X0.ldcInt hx hown (mvT hZ (hw _ (List.mem_of_getElem? (i := 0) rfl))) (g := (mkF m 1 #[.val (.int p0), .val (.int p1), .val (.int p2), .unset, .unset, .unset, .unset] [(.int p0)])) rfl (hb hby at_1) _ ?_
    show Steps p.tables e below (s₁.setTop (mkF m 3 #[.val (.int p0), .val (.int p1), .val (.int p2), .unset, .unset, .unset, .unset] [(.int (2147483647 : Int32)), (.int p0)])) _
    refine XS.iand X0.here hx rfl (hb hby at_3) rfl ?_
    show Steps p.tables e below (s₁.setTop (mkF m 4 #[.val (.int p0), .val (.int p1), .val (.int p2), .unset, .unset, .unset, .unset] [(.int (p0 &&& (2147483647 : Int32)))])) _
    refine XS.iconst X0.here hx rfl (hb hby at_4) ?_
    show Steps p.tables e below (s₁.setTop (mkF m 5 #[.val (.int p0), .val (.int p1), .val (.int p2), .unset, .unset, .unset, .unset] [(.int (3 : Int32)), (.int (p0 &&& (2147483647 : Int32)))])) _
    refine Jvm.RoadKit.iremM X0 hx rfl (hb hby at_5) rfl (by decide) ?_
    show Steps p.tables e below (s₁.setTop (mkF m 6 #[.val (.int p0), .val (.int p1), .val (.int p2), .unset, .unset, .unset, .unset] [(.int ((p0 &&& (2147483647 : Int32)) % (3 : Int32)))])) _
    rw [ha]
    show Steps p.tables e below (s₁.setTop (mkF m 6 #[.val (.int p0), .val (.int p1), .val (.int p2), .unset, .unset, .unset, .unset] [(.int (2 : Int32))])) _
    refine XS.istoreN X0.here hx rfl (hb hby at_6) rfl (l' := #[.val (.int p0), .val (.int p1), .val (.int p2), .val (.int (2 : Int32)), .unset, .unset, .unset]) rfl ?_
    show Steps p.tables e below (s₁.setTop (mkF m 7 #[.val (.int p0), .val (.int p1), .val (.int p2), .val (.int (2 : Int32)), .unset, .unset, .unset] [])) _
    refine XS.iloadN X0.here hx rfl (hb hby at_7) rfl ?_
    show Steps p.tables e below (s₁.setTop (mkF m 8 #[.val (.int p0), .val (.int p1), .val (.int p2), .val (.int (2 : Int32)), .unset, .unset, .unset] [(.int (2 : Int32))])) _
    refine XS.ifYes X0.here hx rfl (pc0 := 8) (pc' := 19) rfl (hb hby at_8) rfl (by decide +kernel) (by decide) (by decide) ?_
    show Steps p.tables e below (s₁.setTop (mkF m 19 #[.val (.int p0), .val (.int p1), .val (.int p2), .val (.int (2 : Int32)), .unset, .unset, .unset] [])) _
    refine XS.iloadN X0.here hx rfl (hb hby at_19) rfl ?_
    show Steps p.tables e below (s₁.setTop (mkF m 20 #[.val (.int p0), .val (.int p1), .val (.int p2), .val (.int (2 : Int32)), .unset, .unset, .unset] [(.int (2 : Int32))])) _
    refine XS.iconst X0.here hx rfl (hb hby at_20) ?_
    show Steps p.tables e below (s₁.setTop (mkF m 21 #[.val (.int p0), .val (.int p1), .val (.int p2), .val (.int (2 : Int32)), .unset, .unset, .unset] [(.int (1 : Int32)), (.int (2 : Int32))])) _
    refine XS.icmpYes X0.here hx rfl (pc0 := 21) (pc' := 32) rfl (hb hby at_21) rfl (by decide +kernel) (by decide) (by decide) ?_
    show Steps p.tables e below (s₁.setTop (mkF m 32 #[.val (.int p0), .val (.int p1), .val (.int p2), .val (.int (2 : Int32)), .unset, .unset, .unset] [])) _
    refine st1 _ ?_
    show Steps p.tables e below (T1.setTop (mkF m 35 #[.val (.int p0), .val (.int p1), .val (.int p2), .val (.int (2 : Int32)), .unset, .unset, .unset] [(.ref s_UTF8)])) _
    refine XS.astore X1.here hx rfl (hb hby at_35) rfl rfl (l' := #[.val (.int p0), .val (.int p1), .val (.int p2), .val (.int (2 : Int32)), .val (.ref s_UTF8), .unset, .unset]) rfl ?_
    show Steps p.tables e below (T1.setTop (mkF m 37 #[.val (.int p0), .val (.int p1), .val (.int p2), .val (.int (2 : Int32)), .val (.ref s_UTF8), .unset, .unset] [])) _
    refine XS.iloadN X1.here hx rfl (hb hby at_37) rfl ?_
    show Steps p.tables e below (T1.setTop (mkF m 38 #[.val (.int p0), .val (.int p1), .val (.int p2), .val (.int (2 : Int32)), .val (.ref s_UTF8), .unset, .unset] [(.int p2)])) _
    refine XS.bipush X1.here hx rfl (hb hby at_38) ?_
    show Steps p.tables e below (T1.setTop (mkF m 40 #[.val (.int p0), .val (.int p1), .val (.int p2), .val (.int (2 : Int32)), .val (.ref s_UTF8), .unset, .unset] [(.int (8 : Int32)), (.int p2)])) _
    refine XS.iand X1.here hx rfl (hb hby at_40) rfl ?_
    show Steps p.tables e below (T1.setTop (mkF m 41 #[.val (.int p0), .val (.int p1), .val (.int p2), .val (.int (2 : Int32)), .val (.ref s_UTF8), .unset, .unset] [(.int (p2 &&& (8 : Int32)))])) _
    rw [hb1]
    show Steps p.tables e below (T1.setTop (mkF m 41 #[.val (.int p0), .val (.int p1), .val (.int p2), .val (.int (2 : Int32)), .val (.ref s_UTF8), .unset, .unset] [(.int (8 : Int32))])) _
    refine XS.ifNo X1.here hx rfl (hb hby at_41) rfl (by decide +kernel) ?_
    show Steps p.tables e below (T1.setTop (mkF m 44 #[.val (.int p0), .val (.int p1), .val (.int p2), .val (.int (2 : Int32)), .val (.ref s_UTF8), .unset, .unset] [])) _
    refine XS.iloadN X1.here hx rfl (hb hby at_44) rfl ?_
    show Steps p.tables e below (T1.setTop (mkF m 45 #[.val (.int p0), .val (.int p1), .val (.int p2), .val (.int (2 : Int32)), .val (.ref s_UTF8), .unset, .unset] [(.int p1)])) _
    refine XS.istore X1.here hx rfl (hb hby at_45) rfl (l' := #[.val (.int p0), .val (.int p1), .val (.int p2), .val (.int (2 : Int32)), .val (.ref s_UTF8), .val (.int p1), .unset]) rfl ?_
    show Steps p.tables e below (T1.setTop (mkF m 47 #[.val (.int p0), .val (.int p1), .val (.int p2), .val (.int (2 : Int32)), .val (.ref s_UTF8), .val (.int p1), .unset] [])) _
    refine XS.goto X1.here hx rfl (pc0 := 47) (pc' := 66) rfl (hb hby at_47) (by decide) (by decide) ?_
    show Steps p.tables e below (T1.setTop (mkF m 66 #[.val (.int p0), .val (.int p1), .val (.int p2), .val (.int (2 : Int32)), .val (.ref s_UTF8), .val (.int p1), .unset] [])) _
    refine XS.iloadN X1.here hx rfl (hb hby at_66) rfl ?_
    show Steps p.tables e below (T1.setTop (mkF m 67 #[.val (.int p0), .val (.int p1), .val (.int p2), .val (.int (2 : Int32)), .val (.ref s_UTF8), .val (.int p1), .unset] [(.int (2 : Int32))])) _
    refine XS.ifYes X1.here hx rfl (pc0 := 67) (pc' := 92) rfl (hb hby at_67) rfl (by decide +kernel) (by decide) (by decide) ?_
    show Steps p.tables e below (T1.setTop (mkF m 92 #[.val (.int p0), .val (.int p1), .val (.int p2), .val (.int (2 : Int32)), .val (.ref s_UTF8), .val (.int p1), .unset] [])) _
    refine XS.iloadN X1.here hx rfl (hb hby at_92) rfl ?_
    show Steps p.tables e below (T1.setTop (mkF m 93 #[.val (.int p0), .val (.int p1), .val (.int p2), .val (.int (2 : Int32)), .val (.ref s_UTF8), .val (.int p1), .unset] [(.int (2 : Int32))])) _
    refine XS.iconst X1.here hx rfl (hb hby at_93) ?_
    show Steps p.tables e below (T1.setTop (mkF m 94 #[.val (.int p0), .val (.int p1), .val (.int p2), .val (.int (2 : Int32)), .val (.ref s_UTF8), .val (.int p1), .unset] [(.int (1 : Int32)), (.int (2 : Int32))])) _
    refine XS.icmpYes X1.here hx rfl (pc0 := 94) (pc' := 133) rfl (hb hby at_94) rfl (by decide +kernel) (by decide) (by decide) ?_
    show Steps p.tables e below (T1.setTop (mkF m 133 #[.val (.int p0), .val (.int p1), .val (.int p2), .val (.int (2 : Int32)), .val (.ref s_UTF8), .val (.int p1), .unset] [])) _
    refine XS.iload X1.here hx rfl (hb hby at_133) rfl ?_
    show Steps p.tables e below (T1.setTop (mkF m 135 #[.val (.int p0), .val (.int p1), .val (.int p2), .val (.int (2 : Int32)), .val (.ref s_UTF8), .val (.int p1), .unset] [(.int p1)])) _
    refine XS.ifNo X1.here hx rfl (hb hby at_135) rfl hc_lt_0 ?_
    show Steps p.tables e below (T1.setTop (mkF m 138 #[.val (.int p0), .val (.int p1), .val (.int p2), .val (.int (2 : Int32)), .val (.ref s_UTF8), .val (.int p1), .unset] [])) _
    refine XS.iload X1.here hx rfl (hb hby at_138) rfl ?_
    show Steps p.tables e below (T1.setTop (mkF m 140 #[.val (.int p0), .val (.int p1), .val (.int p2), .val (.int (2 : Int32)), .val (.ref s_UTF8), .val (.int p1), .unset] [(.int p1)])) _
    refine X1.ldcInt hx hown (mvT hZ (hw _ (List.mem_of_getElem? (i := 8) rfl))) (g := (mkF m 140 #[.val (.int p0), .val (.int p1), .val (.int p2), .val (.int (2 : Int32)), .val (.ref s_UTF8), .val (.int p1), .unset] [(.int p1)])) rfl (hb hby at_140) _ ?_
    show Steps p.tables e below (T1.setTop (mkF m 142 #[.val (.int p0), .val (.int p1), .val (.int p2), .val (.int (2 : Int32)), .val (.ref s_UTF8), .val (.int p1), .unset] [(.int (55296 : Int32)), (.int p1)])) _
    refine XS.icmpYes X1.here hx rfl (pc0 := 142) (pc' := 159) rfl (hb hby at_142) rfl hc_lt_55296 (by decide) (by decide) ?_
    show Steps p.tables e below (T1.setTop (mkF m 159 #[.val (.int p0), .val (.int p1), .val (.int p2), .val (.int (2 : Int32)), .val (.ref s_UTF8), .val (.int p1), .unset] [])) _
    refine XS.iconst X1.here hx rfl (hb hby at_159) ?_
    show Steps p.tables e below (T1.setTop (mkF m 160 #[.val (.int p0), .val (.int p1), .val (.int p2), .val (.int (2 : Int32)), .val (.ref s_UTF8), .val (.int p1), .unset] [(.int (1 : Int32))])) _
    refine XS.goto X1.here hx rfl (pc0 := 160) (pc' := 164) rfl (hb hby at_160) (by decide) (by decide) ?_
    show Steps p.tables e below (T1.setTop (mkF m 164 #[.val (.int p0), .val (.int p1), .val (.int p2), .val (.int (2 : Int32)), .val (.ref s_UTF8), .val (.int p1), .unset] [(.int (1 : Int32))])) _
    refine XS.istore X1.here hx rfl (hb hby at_164) rfl (l' := #[.val (.int p0), .val (.int p1), .val (.int p2), .val (.int (2 : Int32)), .val (.ref s_UTF8), .val (.int p1), .val (.int (1 : Int32))]) rfl ?_
    show Steps p.tables e below (T1.setTop (mkF m 166 #[.val (.int p0), .val (.int p1), .val (.int p2), .val (.int (2 : Int32)), .val (.ref s_UTF8), .val (.int p1), .val (.int (1 : Int32))] [])) _
    refine XS.aload X1.here hx rfl (hb hby at_166) rfl rfl ?_
    show Steps p.tables e below (T1.setTop (mkF m 168 #[.val (.int p0), .val (.int p1), .val (.int p2), .val (.int (2 : Int32)), .val (.ref s_UTF8), .val (.int p1), .val (.int (1 : Int32))] [(.ref s_UTF8)])) _
    refine XS.iload X1.here hx rfl (hb hby at_168) rfl ?_
    show Steps p.tables e below (T1.setTop (mkF m 170 #[.val (.int p0), .val (.int p1), .val (.int p2), .val (.int (2 : Int32)), .val (.ref s_UTF8), .val (.int p1), .val (.int (1 : Int32))] [(.int p1), (.ref s_UTF8)])) _
    refine st2.trans ?_
    show Steps p.tables e below (T2.setTop (mkF m 173 #[.val (.int p0), .val (.int p1), .val (.int p2), .val (.int (2 : Int32)), .val (.ref s_UTF8), .val (.int p1), .val (.int (1 : Int32))] [(.int (1 : Int32))])) _
    refine XS.iload X2.here hx rfl (hb hby at_173) rfl ?_
    show Steps p.tables e below (T2.setTop (mkF m 175 #[.val (.int p0), .val (.int p1), .val (.int p2), .val (.int (2 : Int32)), .val (.ref s_UTF8), .val (.int p1), .val (.int (1 : Int32))] [(.int (1 : Int32)), (.int (1 : Int32))])) _
    refine XS.icmpNo X2.here hx rfl (hb hby at_175) rfl (by decide +kernel) ?_
    show Steps p.tables e below (T2.setTop (mkF m 178 #[.val (.int p0), .val (.int p1), .val (.int p2), .val (.int (2 : Int32)), .val (.ref s_UTF8), .val (.int p1), .val (.int (1 : Int32))] [])) _
    refine XS.iconst X2.here hx rfl (hb hby at_178) ?_
    show Steps p.tables e below (T2.setTop (mkF m 179 #[.val (.int p0), .val (.int p1), .val (.int p2), .val (.int (2 : Int32)), .val (.ref s_UTF8), .val (.int p1), .val (.int (1 : Int32))] [(.int (1 : Int32))])) _
    refine XS.goto X2.here hx rfl (pc0 := 179) (pc' := 183) rfl (hb hby at_179) (by decide) (by decide) ?_
    show Steps p.tables e below (T2.setTop (mkF m 183 #[.val (.int p0), .val (.int p1), .val (.int p2), .val (.int (2 : Int32)), .val (.ref s_UTF8), .val (.int p1), .val (.int (1 : Int32))] [(.int (1 : Int32))])) _
    exact retN X2 hx (t := .boolean) Bd.returns (by simp) (hb hby at_183) hr
  · exact ⟨rfl, N2, e2⟩
set_option maxRecDepth 65536 in
set_option maxHeartbeats 40000000 in
theorem r54 (l : Launch) (Z : State) (a0 : Array Value) (hw : ∀ d ∈ tables_1, d.before a0 Z = true) (ws : List Jvm.Cond) (h0 : Heap) (n0 : Nat) (s_IA5 : Addr) (s_BMP : Addr) (s_UTF8 : Addr) (K : Ctx Z h0 s_IA5 s_BMP s_UTF8) (p1 : Int32) (hc_lt_0 : ifCond.holds .lt p1 = false) (hc_gt_1114111 : if_icmp.holds .gt p1 (1114111 : Int32) = false) (hc_lt_55296 : if_icmp.holds .lt p1 (55296 : Int32) = false) (hc_le_57343 : if_icmp.holds .le p1 (57343 : Int32) = true) :
    MetFree l (⟨"com/example/plainwire/plainwire/definitions/Repertoire", "holds", "(I)Z"⟩ : MethodName) (head1 (Jvm.Cond.code (⟨"com/example/plainwire/plainwire/definitions/Repertoire", "holds", "(I)Z"⟩ : MethodName) prog_37_method_5_code 2 (some .boolean) :: ws) ({ frames := 0, cells := 0, slots := 0, locals := 0 } : Room)) (fun a U => a = #[(.ref s_UTF8), (.int p1)] ∧ Z.Warmed39 U.vm ∧ U.heap = h0) (fun _ _ _ _ _ => True) (fun _ U o U' => ∃ v L, o = .returned v ∧ QV (.int (0 : Int32)) h0 n0 v U'.heap L ∧ FrameEnd U o U' L ({ frames := 0, cells := 0, slots := 0, locals := 0 } : Room).cells ({ frames := 0, cells := 0, slots := 0, locals := 0 } : Room).slots) := by
  obtain ⟨S_IA5, E_IA5, F_IA5_lastCodePoint, S_BMP, E_BMP, F_BMP_lastCodePoint, S_UTF8, E_UTF8, F_UTF8_lastCodePoint⟩ := id K
  refine MetFree.of_bodySF (plainFor_of_name pn1) hisR ?_
  intro p e s m args below meth c s₁ Bd hml0 hP hK
  obtain ⟨rfl, hZ, hh⟩ := hP
  have hx := Bd.exec
  have hby := Bd.bytes
  have hml : c.maxLocals = 2 := hml0
  have hown : s.vm.findClass "com/example/plainwire/plainwire/definitions/Repertoire" = some m.cls := findClass_of_methodNamed Bd.named
  have X0 : Stand p l e ({ frames := 0, cells := 0, slots := 0, locals := 0 } : Room) s m #[(.ref s_UTF8), (.int p1)] below meth c s₁ [] 0 0 := Stand.of_body Bd
  have e0 : s₁.heap = h0 := by rw [← hh, Bd.state]; rfl
  have N0 := Fr.nil n0
  have pre0 : ∀ t, Steps p.tables e below (s₁.setTop (mkF m 0 #[.val (.ref s_UTF8), .val (.int p1)] [])) t → Steps p.tables e below (s₁.setTop (entryFrame m #[(.ref s_UTF8), (.int p1)] 2)) t := fun t k => castTop (by first | (simp [entryFrame, mkF, argsToLocals, Value.category]; done) | rfl) k
  obtain ⟨T1, X1, e1, st1⟩ := getF X0 hx hZ hown (host := "") (Or.inl (hw _ (List.mem_of_getElem? (i := 14) rfl))) Via.refl e0 F_UTF8_lastCodePoint (g := (mkF m 6 #[.val (.ref s_UTF8), .val (.int p1)] [(.ref s_UTF8), (.int p1)])) rfl rfl (hb hby d1_6)
  obtain ⟨fs, hr, hrun, hended, hW, hsame⟩ := X1.leave (v := some (.int (0 : Int32))) (fun h => by rw [Bd.returns] at h; cases h)
  refine ⟨_, _, pre0 _ ?_, hrun, hended, _, _, rfl, ?_, ⟨_, rfl⟩, hW, hsame.mono (by decide) (by decide)⟩
  · show Steps p.tables e below (s₁.setTop (mkF m 0 #[.val (.ref s_UTF8), .val (.int p1)] [])) _
    refine XS.iloadN X0.here hx rfl (hb hby d1_0) rfl ?_
    show Steps p.tables e below (s₁.setTop (mkF m 1 #[.val (.ref s_UTF8), .val (.int p1)] [(.int p1)])) _
    refine XS.ifNo X0.here hx rfl (hb hby d1_1) rfl hc_lt_0 ?_
    show Steps p.tables e below (s₁.setTop (mkF m 4 #[.val (.ref s_UTF8), .val (.int p1)] [])) _
    refine XS.iloadN X0.here hx rfl (hb hby d1_4) rfl ?_
    show Steps p.tables e below (s₁.setTop (mkF m 5 #[.val (.ref s_UTF8), .val (.int p1)] [(.int p1)])) _
    refine XS.aloadN X0.here hx rfl (hb hby d1_5) rfl rfl ?_
    show Steps p.tables e below (s₁.setTop (mkF m 6 #[.val (.ref s_UTF8), .val (.int p1)] [(.ref s_UTF8), (.int p1)])) _
    refine st1 _ ?_
    show Steps p.tables e below (T1.setTop (mkF m 9 #[.val (.ref s_UTF8), .val (.int p1)] [(.int (1114111 : Int32)), (.int p1)])) _
    refine XS.icmpNo X1.here hx rfl (hb hby d1_9) rfl hc_gt_1114111 ?_
    show Steps p.tables e below (T1.setTop (mkF m 12 #[.val (.ref s_UTF8), .val (.int p1)] [])) _
    refine XS.iloadN X1.here hx rfl (hb hby d1_12) rfl ?_
    show Steps p.tables e below (T1.setTop (mkF m 13 #[.val (.ref s_UTF8), .val (.int p1)] [(.int p1)])) _
    refine X1.ldcInt hx hown (mvT hZ (hw _ (List.mem_of_getElem? (i := 21) rfl))) (g := (mkF m 13 #[.val (.ref s_UTF8), .val (.int p1)] [(.int p1)])) rfl (hb hby d1_13) _ ?_
    show Steps p.tables e below (T1.setTop (mkF m 15 #[.val (.ref s_UTF8), .val (.int p1)] [(.int (55296 : Int32)), (.int p1)])) _
    refine XS.icmpNo X1.here hx rfl (hb hby d1_15) rfl hc_lt_55296 ?_
    show Steps p.tables e below (T1.setTop (mkF m 18 #[.val (.ref s_UTF8), .val (.int p1)] [])) _
    refine XS.iloadN X1.here hx rfl (hb hby d1_18) rfl ?_
    show Steps p.tables e below (T1.setTop (mkF m 19 #[.val (.ref s_UTF8), .val (.int p1)] [(.int p1)])) _
    refine X1.ldcInt hx hown (mvT hZ (hw _ (List.mem_of_getElem? (i := 22) rfl))) (g := (mkF m 19 #[.val (.ref s_UTF8), .val (.int p1)] [(.int p1)])) rfl (hb hby d1_19) _ ?_
    show Steps p.tables e below (T1.setTop (mkF m 21 #[.val (.ref s_UTF8), .val (.int p1)] [(.int (57343 : Int32)), (.int p1)])) _
    refine XS.icmpYes X1.here hx rfl (pc0 := 21) (pc' := 28) rfl (hb hby d1_21) rfl hc_le_57343 (by decide) (by decide) ?_
    show Steps p.tables e below (T1.setTop (mkF m 28 #[.val (.ref s_UTF8), .val (.int p1)] [])) _
    refine XS.iconst X1.here hx rfl (hb hby d1_28) ?_
    show Steps p.tables e below (T1.setTop (mkF m 29 #[.val (.ref s_UTF8), .val (.int p1)] [(.int (0 : Int32))])) _
    exact retN X1 hx (t := .boolean) Bd.returns (by simp) (hb hby d1_29) hr
  · exact ⟨rfl, N0, e1⟩
set_option maxRecDepth 65536 in
set_option maxHeartbeats 40000000 in
theorem law_k2_8_2 (l : Launch) (Z : State) (a0 : Array Value) (hw : ∀ d ∈ tables_1, d.before a0 Z = true) (ws : List Jvm.Cond) (h0 : Heap) (n0 : Nat) (s_IA5 : Addr) (s_BMP : Addr) (s_UTF8 : Addr) (K : Ctx Z h0 s_IA5 s_BMP s_UTF8) (p0 : Int32) (p1 : Int32) (p2 : Int32) (ha : ((p0 &&& (2147483647 : Int32)) % (3 : Int32)) = (2 : Int32)) (hb1 : (p2 &&& (8 : Int32)) = (8 : Int32)) (hc_lt_0 : ifCond.holds .lt p1 = false) (hc_lt_55296 : if_icmp.holds .lt p1 (55296 : Int32) = false) (hc_lt_57344 : if_icmp.holds .lt p1 (57344 : Int32) = true) (hc_gt_1114111 : if_icmp.holds .gt p1 (1114111 : Int32) = false) (hc_le_57343 : if_icmp.holds .le p1 (57343 : Int32) = true) :
    MetFree l x (head1 (Jvm.Cond.code x code maxLocals ret :: ws) room_1) (fun a U => a = #[(.int p0), (.int p1), (.int p2)] ∧ Z.Warmed39 U.vm ∧ U.heap = h0) (fun _ _ _ _ _ => True) (fun _ U o U' => ∃ v L, o = .returned v ∧ QV (.int (1 : Int32)) h0 n0 v U'.heap L ∧ FrameEnd U o U' L room_1.cells room_1.slots) := by
  obtain ⟨S_IA5, E_IA5, F_IA5_lastCodePoint, S_BMP, E_BMP, F_BMP_lastCodePoint, S_UTF8, E_UTF8, F_UTF8_lastCodePoint⟩ := id K
  refine MetFree.of_bodySF (plainFor_of_name pn2) hisR ?_
  intro p e s m args below meth c s₁ Bd hml0 hP hK
  obtain ⟨rfl, hZ, hh⟩ := hP
  have hx := Bd.exec
  have hby := Bd.bytes
  have hml : c.maxLocals = 7 := hml0
  have hown : s.vm.findClass "com/example/plainwire/plainwire/definitions/RepertoireHoldsPinLaw" = some m.cls := findClass_of_methodNamed Bd.named
  have X0 : Stand p l e room_1 s m #[(.int p0), (.int p1), (.int p2)] below meth c s₁ [] 0 0 := Stand.of_body Bd
  have e0 : s₁.heap = h0 := by rw [← hh, Bd.state]; rfl
  have N0 := Fr.nil n0
  have pre0 : ∀ t, Steps p.tables e below (s₁.setTop (mkF m 0 #[.val (.int p0), .val (.int p1), .val (.int p2), .unset, .unset, .unset, .unset] [])) t → Steps p.tables e below (s₁.setTop (entryFrame m #[(.int p0), (.int p1), (.int p2)] maxLocals)) t := fun t k => castTop (by first | (simp [entryFrame, mkF, argsToLocals, Value.category, maxLocals]; done) | rfl) k
  obtain ⟨T1, X1, e1, st1⟩ := getS X0 hx hZ hown (host := "") (hw _ (List.mem_of_getElem? (i := 23) rfl)) Via.refl e0 S_UTF8 (g := (mkF m 32 #[.val (.int p0), .val (.int p1), .val (.int p2), .val (.int (2 : Int32)), .unset, .unset, .unset] [])) rfl (hb hby at_32)
  obtain ⟨cq2, kq2, q2a, q2b, q2c⟩ := isOf hZ e1 E_UTF8
  obtain ⟨_, _, ⟨T2, L2, k2, n2⟩, -, X2, ⟨Lc2, hQ2, l2, y2, z2⟩, st2⟩ := X1.virtualBack hx (y := (⟨"com/example/plainwire/plainwire/definitions/Repertoire", "holds", "(I)Z"⟩ : MethodName)) (z := (⟨"com/example/plainwire/plainwire/definitions/Repertoire", "holds", "(I)Z"⟩ : MethodName)) hown (mvT hZ (hw _ (List.mem_of_getElem? (i := 9) rfl))) (mvT hZ (hw _ (List.mem_of_getElem? (i := 10) rfl))) (notFace_of_selects (args := #[]) (mvT hZ (hw _ (List.mem_of_getElem? (i := 12) rfl)))) (mvT hZ (hw _ (List.mem_of_getElem? (i := 12) rfl))) (mvT hZ (hw _ (List.mem_of_getElem? (i := 11) rfl))) (by decide) (backOf (W := 0) (r54 l Z a0 hw [] h0 n0 s_IA5 s_BMP s_UTF8 K p1 hc_lt_0 hc_gt_1114111 hc_lt_55296 hc_le_57343) hZ (hw _ (List.mem_of_getElem? (i := 13) rfl)) (hw _ (List.mem_of_getElem? (i := 2) rfl)) (by decide) (by decide)) q2a q2c (g := (mkF m 170 #[.val (.int p0), .val (.int p1), .val (.int p2), .val (.int (2 : Int32)), .val (.ref s_UTF8), .val (.int p1), .val (.int (0 : Int32))] [(.int p1), (.ref s_UTF8)])) rfl (by rw [hml]; rfl) (Steps.refl _) (argsL := [(.int p1)]) (rest := []) (lenOf pd1 rfl) rfl (by show 2 * 0 + _ ≤ _; exact Nat.le_of_eq rfl) (hb hby at_170) (fun _ _ => ⟨rfl, e1, (by decide : 0 + 0 ≤ _), (by decide : 0 + 0 ≤ _)⟩)
  dsimp only [Pt.U, Pt.locs, Pt.cells, Pt.slots] at X2 l2 y2 z2 st2 hQ2
  subst l2 y2 z2
  obtain ⟨rfl, N2q, e2⟩ := hQ2
  have N2 := Fr.app N0 N2q
  obtain ⟨fs, hr, hrun, hended, hW, hsame⟩ := X2.leave (v := some (.int (1 : Int32))) (fun h => by rw [Bd.returns] at h; cases h)
  refine ⟨_, _, pre0 _ ?_, hrun, hended, _, _, rfl, ?_, ⟨_, rfl⟩, hW, hsame.mono (by decide) (by decide)⟩
  · show Steps p.tables e below (s₁.setTop (mkF m 0 #[.val (.int p0), .val (.int p1), .val (.int p2), .unset, .unset, .unset, .unset] [])) _
    refine XS.iloadN X0.here hx rfl (hb hby at_0) rfl ?_
    show Steps p.tables e below (s₁.setTop (mkF m 1 #[.val (.int p0), .val (.int p1), .val (.int p2), .unset, .unset, .unset, .unset] [(.int p0)])) _
    refine X0.ldcInt hx hown (mvT hZ (hw _ (List.mem_of_getElem? (i := 0) rfl))) (g := (mkF m 1 #[.val (.int p0), .val (.int p1), .val (.int p2), .unset, .unset, .unset, .unset] [(.int p0)])) rfl (hb hby at_1) _ ?_
    show Steps p.tables e below (s₁.setTop (mkF m 3 #[.val (.int p0), .val (.int p1), .val (.int p2), .unset, .unset, .unset, .unset] [(.int (2147483647 : Int32)), (.int p0)])) _
    refine XS.iand X0.here hx rfl (hb hby at_3) rfl ?_
    show Steps p.tables e below (s₁.setTop (mkF m 4 #[.val (.int p0), .val (.int p1), .val (.int p2), .unset, .unset, .unset, .unset] [(.int (p0 &&& (2147483647 : Int32)))])) _
    refine XS.iconst X0.here hx rfl (hb hby at_4) ?_
    show Steps p.tables e below (s₁.setTop (mkF m 5 #[.val (.int p0), .val (.int p1), .val (.int p2), .unset, .unset, .unset, .unset] [(.int (3 : Int32)), (.int (p0 &&& (2147483647 : Int32)))])) _
    refine Jvm.RoadKit.iremM X0 hx rfl (hb hby at_5) rfl (by decide) ?_
    show Steps p.tables e below (s₁.setTop (mkF m 6 #[.val (.int p0), .val (.int p1), .val (.int p2), .unset, .unset, .unset, .unset] [(.int ((p0 &&& (2147483647 : Int32)) % (3 : Int32)))])) _
    rw [ha]
    show Steps p.tables e below (s₁.setTop (mkF m 6 #[.val (.int p0), .val (.int p1), .val (.int p2), .unset, .unset, .unset, .unset] [(.int (2 : Int32))])) _
    refine XS.istoreN X0.here hx rfl (hb hby at_6) rfl (l' := #[.val (.int p0), .val (.int p1), .val (.int p2), .val (.int (2 : Int32)), .unset, .unset, .unset]) rfl ?_
    show Steps p.tables e below (s₁.setTop (mkF m 7 #[.val (.int p0), .val (.int p1), .val (.int p2), .val (.int (2 : Int32)), .unset, .unset, .unset] [])) _
    refine XS.iloadN X0.here hx rfl (hb hby at_7) rfl ?_
    show Steps p.tables e below (s₁.setTop (mkF m 8 #[.val (.int p0), .val (.int p1), .val (.int p2), .val (.int (2 : Int32)), .unset, .unset, .unset] [(.int (2 : Int32))])) _
    refine XS.ifYes X0.here hx rfl (pc0 := 8) (pc' := 19) rfl (hb hby at_8) rfl (by decide +kernel) (by decide) (by decide) ?_
    show Steps p.tables e below (s₁.setTop (mkF m 19 #[.val (.int p0), .val (.int p1), .val (.int p2), .val (.int (2 : Int32)), .unset, .unset, .unset] [])) _
    refine XS.iloadN X0.here hx rfl (hb hby at_19) rfl ?_
    show Steps p.tables e below (s₁.setTop (mkF m 20 #[.val (.int p0), .val (.int p1), .val (.int p2), .val (.int (2 : Int32)), .unset, .unset, .unset] [(.int (2 : Int32))])) _
    refine XS.iconst X0.here hx rfl (hb hby at_20) ?_
    show Steps p.tables e below (s₁.setTop (mkF m 21 #[.val (.int p0), .val (.int p1), .val (.int p2), .val (.int (2 : Int32)), .unset, .unset, .unset] [(.int (1 : Int32)), (.int (2 : Int32))])) _
    refine XS.icmpYes X0.here hx rfl (pc0 := 21) (pc' := 32) rfl (hb hby at_21) rfl (by decide +kernel) (by decide) (by decide) ?_
    show Steps p.tables e below (s₁.setTop (mkF m 32 #[.val (.int p0), .val (.int p1), .val (.int p2), .val (.int (2 : Int32)), .unset, .unset, .unset] [])) _
    refine st1 _ ?_
    show Steps p.tables e below (T1.setTop (mkF m 35 #[.val (.int p0), .val (.int p1), .val (.int p2), .val (.int (2 : Int32)), .unset, .unset, .unset] [(.ref s_UTF8)])) _
    refine XS.astore X1.here hx rfl (hb hby at_35) rfl rfl (l' := #[.val (.int p0), .val (.int p1), .val (.int p2), .val (.int (2 : Int32)), .val (.ref s_UTF8), .unset, .unset]) rfl ?_
    show Steps p.tables e below (T1.setTop (mkF m 37 #[.val (.int p0), .val (.int p1), .val (.int p2), .val (.int (2 : Int32)), .val (.ref s_UTF8), .unset, .unset] [])) _
    refine XS.iloadN X1.here hx rfl (hb hby at_37) rfl ?_
    show Steps p.tables e below (T1.setTop (mkF m 38 #[.val (.int p0), .val (.int p1), .val (.int p2), .val (.int (2 : Int32)), .val (.ref s_UTF8), .unset, .unset] [(.int p2)])) _
    refine XS.bipush X1.here hx rfl (hb hby at_38) ?_
    show Steps p.tables e below (T1.setTop (mkF m 40 #[.val (.int p0), .val (.int p1), .val (.int p2), .val (.int (2 : Int32)), .val (.ref s_UTF8), .unset, .unset] [(.int (8 : Int32)), (.int p2)])) _
    refine XS.iand X1.here hx rfl (hb hby at_40) rfl ?_
    show Steps p.tables e below (T1.setTop (mkF m 41 #[.val (.int p0), .val (.int p1), .val (.int p2), .val (.int (2 : Int32)), .val (.ref s_UTF8), .unset, .unset] [(.int (p2 &&& (8 : Int32)))])) _
    rw [hb1]
    show Steps p.tables e below (T1.setTop (mkF m 41 #[.val (.int p0), .val (.int p1), .val (.int p2), .val (.int (2 : Int32)), .val (.ref s_UTF8), .unset, .unset] [(.int (8 : Int32))])) _
    refine XS.ifNo X1.here hx rfl (hb hby at_41) rfl (by decide +kernel) ?_
    show Steps p.tables e below (T1.setTop (mkF m 44 #[.val (.int p0), .val (.int p1), .val (.int p2), .val (.int (2 : Int32)), .val (.ref s_UTF8), .unset, .unset] [])) _
    refine XS.iloadN X1.here hx rfl (hb hby at_44) rfl ?_
    show Steps p.tables e below (T1.setTop (mkF m 45 #[.val (.int p0), .val (.int p1), .val (.int p2), .val (.int (2 : Int32)), .val (.ref s_UTF8), .unset, .unset] [(.int p1)])) _
    refine XS.istore X1.here hx rfl (hb hby at_45) rfl (l' := #[.val (.int p0), .val (.int p1), .val (.int p2), .val (.int (2 : Int32)), .val (.ref s_UTF8), .val (.int p1), .unset]) rfl ?_
    show Steps p.tables e below (T1.setTop (mkF m 47 #[.val (.int p0), .val (.int p1), .val (.int p2), .val (.int (2 : Int32)), .val (.ref s_UTF8), .val (.int p1), .unset] [])) _
    refine XS.goto X1.here hx rfl (pc0 := 47) (pc' := 66) rfl (hb hby at_47) (by decide) (by decide) ?_
    show Steps p.tables e below (T1.setTop (mkF m 66 #[.val (.int p0), .val (.int p1), .val (.int p2), .val (.int (2 : Int32)), .val (.ref s_UTF8), .val (.int p1), .unset] [])) _
    refine XS.iloadN X1.here hx rfl (hb hby at_66) rfl ?_
    show Steps p.tables e below (T1.setTop (mkF m 67 #[.val (.int p0), .val (.int p1), .val (.int p2), .val (.int (2 : Int32)), .val (.ref s_UTF8), .val (.int p1), .unset] [(.int (2 : Int32))])) _
    refine XS.ifYes X1.here hx rfl (pc0 := 67) (pc' := 92) rfl (hb hby at_67) rfl (by decide +kernel) (by decide) (by decide) ?_
    show Steps p.tables e below (T1.setTop (mkF m 92 #[.val (.int p0), .val (.int p1), .val (.int p2), .val (.int (2 : Int32)), .val (.ref s_UTF8), .val (.int p1), .unset] [])) _
    refine XS.iloadN X1.here hx rfl (hb hby at_92) rfl ?_
    show Steps p.tables e below (T1.setTop (mkF m 93 #[.val (.int p0), .val (.int p1), .val (.int p2), .val (.int (2 : Int32)), .val (.ref s_UTF8), .val (.int p1), .unset] [(.int (2 : Int32))])) _
    refine XS.iconst X1.here hx rfl (hb hby at_93) ?_
    show Steps p.tables e below (T1.setTop (mkF m 94 #[.val (.int p0), .val (.int p1), .val (.int p2), .val (.int (2 : Int32)), .val (.ref s_UTF8), .val (.int p1), .unset] [(.int (1 : Int32)), (.int (2 : Int32))])) _
    refine XS.icmpYes X1.here hx rfl (pc0 := 94) (pc' := 133) rfl (hb hby at_94) rfl (by decide +kernel) (by decide) (by decide) ?_
    show Steps p.tables e below (T1.setTop (mkF m 133 #[.val (.int p0), .val (.int p1), .val (.int p2), .val (.int (2 : Int32)), .val (.ref s_UTF8), .val (.int p1), .unset] [])) _
    refine XS.iload X1.here hx rfl (hb hby at_133) rfl ?_
    show Steps p.tables e below (T1.setTop (mkF m 135 #[.val (.int p0), .val (.int p1), .val (.int p2), .val (.int (2 : Int32)), .val (.ref s_UTF8), .val (.int p1), .unset] [(.int p1)])) _
    refine XS.ifNo X1.here hx rfl (hb hby at_135) rfl hc_lt_0 ?_
    show Steps p.tables e below (T1.setTop (mkF m 138 #[.val (.int p0), .val (.int p1), .val (.int p2), .val (.int (2 : Int32)), .val (.ref s_UTF8), .val (.int p1), .unset] [])) _
    refine XS.iload X1.here hx rfl (hb hby at_138) rfl ?_
    show Steps p.tables e below (T1.setTop (mkF m 140 #[.val (.int p0), .val (.int p1), .val (.int p2), .val (.int (2 : Int32)), .val (.ref s_UTF8), .val (.int p1), .unset] [(.int p1)])) _
    refine X1.ldcInt hx hown (mvT hZ (hw _ (List.mem_of_getElem? (i := 8) rfl))) (g := (mkF m 140 #[.val (.int p0), .val (.int p1), .val (.int p2), .val (.int (2 : Int32)), .val (.ref s_UTF8), .val (.int p1), .unset] [(.int p1)])) rfl (hb hby at_140) _ ?_
    show Steps p.tables e below (T1.setTop (mkF m 142 #[.val (.int p0), .val (.int p1), .val (.int p2), .val (.int (2 : Int32)), .val (.ref s_UTF8), .val (.int p1), .unset] [(.int (55296 : Int32)), (.int p1)])) _
    refine XS.icmpNo X1.here hx rfl (hb hby at_142) rfl hc_lt_55296 ?_
    show Steps p.tables e below (T1.setTop (mkF m 145 #[.val (.int p0), .val (.int p1), .val (.int p2), .val (.int (2 : Int32)), .val (.ref s_UTF8), .val (.int p1), .unset] [])) _
    refine XS.iload X1.here hx rfl (hb hby at_145) rfl ?_
    show Steps p.tables e below (T1.setTop (mkF m 147 #[.val (.int p0), .val (.int p1), .val (.int p2), .val (.int (2 : Int32)), .val (.ref s_UTF8), .val (.int p1), .unset] [(.int p1)])) _
    refine X1.ldcInt hx hown (mvT hZ (hw _ (List.mem_of_getElem? (i := 19) rfl))) (g := (mkF m 147 #[.val (.int p0), .val (.int p1), .val (.int p2), .val (.int (2 : Int32)), .val (.ref s_UTF8), .val (.int p1), .unset] [(.int p1)])) rfl (hb hby at_147) _ ?_
    show Steps p.tables e below (T1.setTop (mkF m 149 #[.val (.int p0), .val (.int p1), .val (.int p2), .val (.int (2 : Int32)), .val (.ref s_UTF8), .val (.int p1), .unset] [(.int (57344 : Int32)), (.int p1)])) _
    refine XS.icmpYes X1.here hx rfl (pc0 := 149) (pc' := 163) rfl (hb hby at_149) rfl hc_lt_57344 (by decide) (by decide) ?_
    show Steps p.tables e below (T1.setTop (mkF m 163 #[.val (.int p0), .val (.int p1), .val (.int p2), .val (.int (2 : Int32)), .val (.ref s_UTF8), .val (.int p1), .unset] [])) _
    refine XS.iconst X1.here hx rfl (hb hby at_163) ?_
    show Steps p.tables e below (T1.setTop (mkF m 164 #[.val (.int p0), .val (.int p1), .val (.int p2), .val (.int (2 : Int32)), .val (.ref s_UTF8), .val (.int p1), .unset] [(.int (0 : Int32))])) _
    refine XS.istore X1.here hx rfl (hb hby at_164) rfl (l' := #[.val (.int p0), .val (.int p1), .val (.int p2), .val (.int (2 : Int32)), .val (.ref s_UTF8), .val (.int p1), .val (.int (0 : Int32))]) rfl ?_
    show Steps p.tables e below (T1.setTop (mkF m 166 #[.val (.int p0), .val (.int p1), .val (.int p2), .val (.int (2 : Int32)), .val (.ref s_UTF8), .val (.int p1), .val (.int (0 : Int32))] [])) _
    refine XS.aload X1.here hx rfl (hb hby at_166) rfl rfl ?_
    show Steps p.tables e below (T1.setTop (mkF m 168 #[.val (.int p0), .val (.int p1), .val (.int p2), .val (.int (2 : Int32)), .val (.ref s_UTF8), .val (.int p1), .val (.int (0 : Int32))] [(.ref s_UTF8)])) _
    refine XS.iload X1.here hx rfl (hb hby at_168) rfl ?_
    show Steps p.tables e below (T1.setTop (mkF m 170 #[.val (.int p0), .val (.int p1), .val (.int p2), .val (.int (2 : Int32)), .val (.ref s_UTF8), .val (.int p1), .val (.int (0 : Int32))] [(.int p1), (.ref s_UTF8)])) _
    refine st2.trans ?_
    show Steps p.tables e below (T2.setTop (mkF m 173 #[.val (.int p0), .val (.int p1), .val (.int p2), .val (.int (2 : Int32)), .val (.ref s_UTF8), .val (.int p1), .val (.int (0 : Int32))] [(.int (0 : Int32))])) _
    refine XS.iload X2.here hx rfl (hb hby at_173) rfl ?_
    show Steps p.tables e below (T2.setTop (mkF m 175 #[.val (.int p0), .val (.int p1), .val (.int p2), .val (.int (2 : Int32)), .val (.ref s_UTF8), .val (.int p1), .val (.int (0 : Int32))] [(.int (0 : Int32)), (.int (0 : Int32))])) _
    refine XS.icmpNo X2.here hx rfl (hb hby at_175) rfl (by decide +kernel) ?_
    show Steps p.tables e below (T2.setTop (mkF m 178 #[.val (.int p0), .val (.int p1), .val (.int p2), .val (.int (2 : Int32)), .val (.ref s_UTF8), .val (.int p1), .val (.int (0 : Int32))] [])) _
    refine XS.iconst X2.here hx rfl (hb hby at_178) ?_
    show Steps p.tables e below (T2.setTop (mkF m 179 #[.val (.int p0), .val (.int p1), .val (.int p2), .val (.int (2 : Int32)), .val (.ref s_UTF8), .val (.int p1), .val (.int (0 : Int32))] [(.int (1 : Int32))])) _
    refine XS.goto X2.here hx rfl (pc0 := 179) (pc' := 183) rfl (hb hby at_179) (by decide) (by decide) ?_
    show Steps p.tables e below (T2.setTop (mkF m 183 #[.val (.int p0), .val (.int p1), .val (.int p2), .val (.int (2 : Int32)), .val (.ref s_UTF8), .val (.int p1), .val (.int (0 : Int32))] [(.int (1 : Int32))])) _
    exact retN X2 hx (t := .boolean) Bd.returns (by simp) (hb hby at_183) hr
  · exact ⟨rfl, N2, e2⟩
set_option maxRecDepth 65536 in
set_option maxHeartbeats 40000000 in
theorem r56 (l : Launch) (Z : State) (a0 : Array Value) (hw : ∀ d ∈ tables_1, d.before a0 Z = true) (ws : List Jvm.Cond) (h0 : Heap) (n0 : Nat) (s_IA5 : Addr) (s_BMP : Addr) (s_UTF8 : Addr) (K : Ctx Z h0 s_IA5 s_BMP s_UTF8) (p1 : Int32) (hc_lt_0 : ifCond.holds .lt p1 = false) (hc_gt_1114111 : if_icmp.holds .gt p1 (1114111 : Int32) = false) (hc_lt_55296 : if_icmp.holds .lt p1 (55296 : Int32) = false) (hc_le_57343 : if_icmp.holds .le p1 (57343 : Int32) = false) :
    MetFree l (⟨"com/example/plainwire/plainwire/definitions/Repertoire", "holds", "(I)Z"⟩ : MethodName) (head1 (Jvm.Cond.code (⟨"com/example/plainwire/plainwire/definitions/Repertoire", "holds", "(I)Z"⟩ : MethodName) prog_37_method_5_code 2 (some .boolean) :: ws) ({ frames := 0, cells := 0, slots := 0, locals := 0 } : Room)) (fun a U => a = #[(.ref s_UTF8), (.int p1)] ∧ Z.Warmed39 U.vm ∧ U.heap = h0) (fun _ _ _ _ _ => True) (fun _ U o U' => ∃ v L, o = .returned v ∧ QV (.int (1 : Int32)) h0 n0 v U'.heap L ∧ FrameEnd U o U' L ({ frames := 0, cells := 0, slots := 0, locals := 0 } : Room).cells ({ frames := 0, cells := 0, slots := 0, locals := 0 } : Room).slots) := by
  obtain ⟨S_IA5, E_IA5, F_IA5_lastCodePoint, S_BMP, E_BMP, F_BMP_lastCodePoint, S_UTF8, E_UTF8, F_UTF8_lastCodePoint⟩ := id K
  refine MetFree.of_bodySF (plainFor_of_name pn1) hisR ?_
  intro p e s m args below meth c s₁ Bd hml0 hP hK
  obtain ⟨rfl, hZ, hh⟩ := hP
  have hx := Bd.exec
  have hby := Bd.bytes
  have hml : c.maxLocals = 2 := hml0
  have hown : s.vm.findClass "com/example/plainwire/plainwire/definitions/Repertoire" = some m.cls := findClass_of_methodNamed Bd.named
  have X0 : Stand p l e ({ frames := 0, cells := 0, slots := 0, locals := 0 } : Room) s m #[(.ref s_UTF8), (.int p1)] below meth c s₁ [] 0 0 := Stand.of_body Bd
  have e0 : s₁.heap = h0 := by rw [← hh, Bd.state]; rfl
  have N0 := Fr.nil n0
  have pre0 : ∀ t, Steps p.tables e below (s₁.setTop (mkF m 0 #[.val (.ref s_UTF8), .val (.int p1)] [])) t → Steps p.tables e below (s₁.setTop (entryFrame m #[(.ref s_UTF8), (.int p1)] 2)) t := fun t k => castTop (by first | (simp [entryFrame, mkF, argsToLocals, Value.category]; done) | rfl) k
  obtain ⟨T1, X1, e1, st1⟩ := getF X0 hx hZ hown (host := "") (Or.inl (hw _ (List.mem_of_getElem? (i := 14) rfl))) Via.refl e0 F_UTF8_lastCodePoint (g := (mkF m 6 #[.val (.ref s_UTF8), .val (.int p1)] [(.ref s_UTF8), (.int p1)])) rfl rfl (hb hby d1_6)
  obtain ⟨fs, hr, hrun, hended, hW, hsame⟩ := X1.leave (v := some (.int (1 : Int32))) (fun h => by rw [Bd.returns] at h; cases h)
  refine ⟨_, _, pre0 _ ?_, hrun, hended, _, _, rfl, ?_, ⟨_, rfl⟩, hW, hsame.mono (by decide) (by decide)⟩
  · show Steps p.tables e below (s₁.setTop (mkF m 0 #[.val (.ref s_UTF8), .val (.int p1)] [])) _
    refine XS.iloadN X0.here hx rfl (hb hby d1_0) rfl ?_
    show Steps p.tables e below (s₁.setTop (mkF m 1 #[.val (.ref s_UTF8), .val (.int p1)] [(.int p1)])) _
    refine XS.ifNo X0.here hx rfl (hb hby d1_1) rfl hc_lt_0 ?_
    show Steps p.tables e below (s₁.setTop (mkF m 4 #[.val (.ref s_UTF8), .val (.int p1)] [])) _
    refine XS.iloadN X0.here hx rfl (hb hby d1_4) rfl ?_
    show Steps p.tables e below (s₁.setTop (mkF m 5 #[.val (.ref s_UTF8), .val (.int p1)] [(.int p1)])) _
    refine XS.aloadN X0.here hx rfl (hb hby d1_5) rfl rfl ?_
    show Steps p.tables e below (s₁.setTop (mkF m 6 #[.val (.ref s_UTF8), .val (.int p1)] [(.ref s_UTF8), (.int p1)])) _
    refine st1 _ ?_
    show Steps p.tables e below (T1.setTop (mkF m 9 #[.val (.ref s_UTF8), .val (.int p1)] [(.int (1114111 : Int32)), (.int p1)])) _
    refine XS.icmpNo X1.here hx rfl (hb hby d1_9) rfl hc_gt_1114111 ?_
    show Steps p.tables e below (T1.setTop (mkF m 12 #[.val (.ref s_UTF8), .val (.int p1)] [])) _
    refine XS.iloadN X1.here hx rfl (hb hby d1_12) rfl ?_
    show Steps p.tables e below (T1.setTop (mkF m 13 #[.val (.ref s_UTF8), .val (.int p1)] [(.int p1)])) _
    refine X1.ldcInt hx hown (mvT hZ (hw _ (List.mem_of_getElem? (i := 21) rfl))) (g := (mkF m 13 #[.val (.ref s_UTF8), .val (.int p1)] [(.int p1)])) rfl (hb hby d1_13) _ ?_
    show Steps p.tables e below (T1.setTop (mkF m 15 #[.val (.ref s_UTF8), .val (.int p1)] [(.int (55296 : Int32)), (.int p1)])) _
    refine XS.icmpNo X1.here hx rfl (hb hby d1_15) rfl hc_lt_55296 ?_
    show Steps p.tables e below (T1.setTop (mkF m 18 #[.val (.ref s_UTF8), .val (.int p1)] [])) _
    refine XS.iloadN X1.here hx rfl (hb hby d1_18) rfl ?_
    show Steps p.tables e below (T1.setTop (mkF m 19 #[.val (.ref s_UTF8), .val (.int p1)] [(.int p1)])) _
    refine X1.ldcInt hx hown (mvT hZ (hw _ (List.mem_of_getElem? (i := 22) rfl))) (g := (mkF m 19 #[.val (.ref s_UTF8), .val (.int p1)] [(.int p1)])) rfl (hb hby d1_19) _ ?_
    show Steps p.tables e below (T1.setTop (mkF m 21 #[.val (.ref s_UTF8), .val (.int p1)] [(.int (57343 : Int32)), (.int p1)])) _
    refine XS.icmpNo X1.here hx rfl (hb hby d1_21) rfl hc_le_57343 ?_
    show Steps p.tables e below (T1.setTop (mkF m 24 #[.val (.ref s_UTF8), .val (.int p1)] [])) _
    refine XS.iconst X1.here hx rfl (hb hby d1_24) ?_
    show Steps p.tables e below (T1.setTop (mkF m 25 #[.val (.ref s_UTF8), .val (.int p1)] [(.int (1 : Int32))])) _
    refine XS.goto X1.here hx rfl (pc0 := 25) (pc' := 29) rfl (hb hby d1_25) (by decide) (by decide) ?_
    show Steps p.tables e below (T1.setTop (mkF m 29 #[.val (.ref s_UTF8), .val (.int p1)] [(.int (1 : Int32))])) _
    exact retN X1 hx (t := .boolean) Bd.returns (by simp) (hb hby d1_29) hr
  · exact ⟨rfl, N0, e1⟩
set_option maxRecDepth 65536 in
set_option maxHeartbeats 40000000 in
theorem law_k2_8_3 (l : Launch) (Z : State) (a0 : Array Value) (hw : ∀ d ∈ tables_1, d.before a0 Z = true) (ws : List Jvm.Cond) (h0 : Heap) (n0 : Nat) (s_IA5 : Addr) (s_BMP : Addr) (s_UTF8 : Addr) (K : Ctx Z h0 s_IA5 s_BMP s_UTF8) (p0 : Int32) (p1 : Int32) (p2 : Int32) (ha : ((p0 &&& (2147483647 : Int32)) % (3 : Int32)) = (2 : Int32)) (hb1 : (p2 &&& (8 : Int32)) = (8 : Int32)) (hc_lt_0 : ifCond.holds .lt p1 = false) (hc_lt_55296 : if_icmp.holds .lt p1 (55296 : Int32) = false) (hc_lt_57344 : if_icmp.holds .lt p1 (57344 : Int32) = false) (hc_gt_1114111 : if_icmp.holds .gt p1 (1114111 : Int32) = false) (hc_le_57343 : if_icmp.holds .le p1 (57343 : Int32) = false) :
    MetFree l x (head1 (Jvm.Cond.code x code maxLocals ret :: ws) room_1) (fun a U => a = #[(.int p0), (.int p1), (.int p2)] ∧ Z.Warmed39 U.vm ∧ U.heap = h0) (fun _ _ _ _ _ => True) (fun _ U o U' => ∃ v L, o = .returned v ∧ QV (.int (1 : Int32)) h0 n0 v U'.heap L ∧ FrameEnd U o U' L room_1.cells room_1.slots) := by
  obtain ⟨S_IA5, E_IA5, F_IA5_lastCodePoint, S_BMP, E_BMP, F_BMP_lastCodePoint, S_UTF8, E_UTF8, F_UTF8_lastCodePoint⟩ := id K
  refine MetFree.of_bodySF (plainFor_of_name pn2) hisR ?_
  intro p e s m args below meth c s₁ Bd hml0 hP hK
  obtain ⟨rfl, hZ, hh⟩ := hP
  have hx := Bd.exec
  have hby := Bd.bytes
  have hml : c.maxLocals = 7 := hml0
  have hown : s.vm.findClass "com/example/plainwire/plainwire/definitions/RepertoireHoldsPinLaw" = some m.cls := findClass_of_methodNamed Bd.named
  have X0 : Stand p l e room_1 s m #[(.int p0), (.int p1), (.int p2)] below meth c s₁ [] 0 0 := Stand.of_body Bd
  have e0 : s₁.heap = h0 := by rw [← hh, Bd.state]; rfl
  have N0 := Fr.nil n0
  have pre0 : ∀ t, Steps p.tables e below (s₁.setTop (mkF m 0 #[.val (.int p0), .val (.int p1), .val (.int p2), .unset, .unset, .unset, .unset] [])) t → Steps p.tables e below (s₁.setTop (entryFrame m #[(.int p0), (.int p1), (.int p2)] maxLocals)) t := fun t k => castTop (by first | (simp [entryFrame, mkF, argsToLocals, Value.category, maxLocals]; done) | rfl) k
  obtain ⟨T1, X1, e1, st1⟩ := getS X0 hx hZ hown (host := "") (hw _ (List.mem_of_getElem? (i := 23) rfl)) Via.refl e0 S_UTF8 (g := (mkF m 32 #[.val (.int p0), .val (.int p1), .val (.int p2), .val (.int (2 : Int32)), .unset, .unset, .unset] [])) rfl (hb hby at_32)
  obtain ⟨cq2, kq2, q2a, q2b, q2c⟩ := isOf hZ e1 E_UTF8
  obtain ⟨_, _, ⟨T2, L2, k2, n2⟩, -, X2, ⟨Lc2, hQ2, l2, y2, z2⟩, st2⟩ := X1.virtualBack hx (y := (⟨"com/example/plainwire/plainwire/definitions/Repertoire", "holds", "(I)Z"⟩ : MethodName)) (z := (⟨"com/example/plainwire/plainwire/definitions/Repertoire", "holds", "(I)Z"⟩ : MethodName)) hown (mvT hZ (hw _ (List.mem_of_getElem? (i := 9) rfl))) (mvT hZ (hw _ (List.mem_of_getElem? (i := 10) rfl))) (notFace_of_selects (args := #[]) (mvT hZ (hw _ (List.mem_of_getElem? (i := 12) rfl)))) (mvT hZ (hw _ (List.mem_of_getElem? (i := 12) rfl))) (mvT hZ (hw _ (List.mem_of_getElem? (i := 11) rfl))) (by decide) (backOf (W := 0) (r56 l Z a0 hw [] h0 n0 s_IA5 s_BMP s_UTF8 K p1 hc_lt_0 hc_gt_1114111 hc_lt_55296 hc_le_57343) hZ (hw _ (List.mem_of_getElem? (i := 13) rfl)) (hw _ (List.mem_of_getElem? (i := 2) rfl)) (by decide) (by decide)) q2a q2c (g := (mkF m 170 #[.val (.int p0), .val (.int p1), .val (.int p2), .val (.int (2 : Int32)), .val (.ref s_UTF8), .val (.int p1), .val (.int (1 : Int32))] [(.int p1), (.ref s_UTF8)])) rfl (by rw [hml]; rfl) (Steps.refl _) (argsL := [(.int p1)]) (rest := []) (lenOf pd1 rfl) rfl (by show 2 * 0 + _ ≤ _; exact Nat.le_of_eq rfl) (hb hby at_170) (fun _ _ => ⟨rfl, e1, (by decide : 0 + 0 ≤ _), (by decide : 0 + 0 ≤ _)⟩)
  dsimp only [Pt.U, Pt.locs, Pt.cells, Pt.slots] at X2 l2 y2 z2 st2 hQ2
  subst l2 y2 z2
  obtain ⟨rfl, N2q, e2⟩ := hQ2
  have N2 := Fr.app N0 N2q
  obtain ⟨fs, hr, hrun, hended, hW, hsame⟩ := X2.leave (v := some (.int (1 : Int32))) (fun h => by rw [Bd.returns] at h; cases h)
  refine ⟨_, _, pre0 _ ?_, hrun, hended, _, _, rfl, ?_, ⟨_, rfl⟩, hW, hsame.mono (by decide) (by decide)⟩
  · show Steps p.tables e below (s₁.setTop (mkF m 0 #[.val (.int p0), .val (.int p1), .val (.int p2), .unset, .unset, .unset, .unset] [])) _
    refine XS.iloadN X0.here hx rfl (hb hby at_0) rfl ?_
    show Steps p.tables e below (s₁.setTop (mkF m 1 #[.val (.int p0), .val (.int p1), .val (.int p2), .unset, .unset, .unset, .unset] [(.int p0)])) _
    refine X0.ldcInt hx hown (mvT hZ (hw _ (List.mem_of_getElem? (i := 0) rfl))) (g := (mkF m 1 #[.val (.int p0), .val (.int p1), .val (.int p2), .unset, .unset, .unset, .unset] [(.int p0)])) rfl (hb hby at_1) _ ?_
    show Steps p.tables e below (s₁.setTop (mkF m 3 #[.val (.int p0), .val (.int p1), .val (.int p2), .unset, .unset, .unset, .unset] [(.int (2147483647 : Int32)), (.int p0)])) _
    refine XS.iand X0.here hx rfl (hb hby at_3) rfl ?_
    show Steps p.tables e below (s₁.setTop (mkF m 4 #[.val (.int p0), .val (.int p1), .val (.int p2), .unset, .unset, .unset, .unset] [(.int (p0 &&& (2147483647 : Int32)))])) _
    refine XS.iconst X0.here hx rfl (hb hby at_4) ?_
    show Steps p.tables e below (s₁.setTop (mkF m 5 #[.val (.int p0), .val (.int p1), .val (.int p2), .unset, .unset, .unset, .unset] [(.int (3 : Int32)), (.int (p0 &&& (2147483647 : Int32)))])) _
    refine Jvm.RoadKit.iremM X0 hx rfl (hb hby at_5) rfl (by decide) ?_
    show Steps p.tables e below (s₁.setTop (mkF m 6 #[.val (.int p0), .val (.int p1), .val (.int p2), .unset, .unset, .unset, .unset] [(.int ((p0 &&& (2147483647 : Int32)) % (3 : Int32)))])) _
    rw [ha]
    show Steps p.tables e below (s₁.setTop (mkF m 6 #[.val (.int p0), .val (.int p1), .val (.int p2), .unset, .unset, .unset, .unset] [(.int (2 : Int32))])) _
    refine XS.istoreN X0.here hx rfl (hb hby at_6) rfl (l' := #[.val (.int p0), .val (.int p1), .val (.int p2), .val (.int (2 : Int32)), .unset, .unset, .unset]) rfl ?_
    show Steps p.tables e below (s₁.setTop (mkF m 7 #[.val (.int p0), .val (.int p1), .val (.int p2), .val (.int (2 : Int32)), .unset, .unset, .unset] [])) _
    refine XS.iloadN X0.here hx rfl (hb hby at_7) rfl ?_
    show Steps p.tables e below (s₁.setTop (mkF m 8 #[.val (.int p0), .val (.int p1), .val (.int p2), .val (.int (2 : Int32)), .unset, .unset, .unset] [(.int (2 : Int32))])) _
    refine XS.ifYes X0.here hx rfl (pc0 := 8) (pc' := 19) rfl (hb hby at_8) rfl (by decide +kernel) (by decide) (by decide) ?_
    show Steps p.tables e below (s₁.setTop (mkF m 19 #[.val (.int p0), .val (.int p1), .val (.int p2), .val (.int (2 : Int32)), .unset, .unset, .unset] [])) _
    refine XS.iloadN X0.here hx rfl (hb hby at_19) rfl ?_
    show Steps p.tables e below (s₁.setTop (mkF m 20 #[.val (.int p0), .val (.int p1), .val (.int p2), .val (.int (2 : Int32)), .unset, .unset, .unset] [(.int (2 : Int32))])) _
    refine XS.iconst X0.here hx rfl (hb hby at_20) ?_
    show Steps p.tables e below (s₁.setTop (mkF m 21 #[.val (.int p0), .val (.int p1), .val (.int p2), .val (.int (2 : Int32)), .unset, .unset, .unset] [(.int (1 : Int32)), (.int (2 : Int32))])) _
    refine XS.icmpYes X0.here hx rfl (pc0 := 21) (pc' := 32) rfl (hb hby at_21) rfl (by decide +kernel) (by decide) (by decide) ?_
    show Steps p.tables e below (s₁.setTop (mkF m 32 #[.val (.int p0), .val (.int p1), .val (.int p2), .val (.int (2 : Int32)), .unset, .unset, .unset] [])) _
    refine st1 _ ?_
    show Steps p.tables e below (T1.setTop (mkF m 35 #[.val (.int p0), .val (.int p1), .val (.int p2), .val (.int (2 : Int32)), .unset, .unset, .unset] [(.ref s_UTF8)])) _
    refine XS.astore X1.here hx rfl (hb hby at_35) rfl rfl (l' := #[.val (.int p0), .val (.int p1), .val (.int p2), .val (.int (2 : Int32)), .val (.ref s_UTF8), .unset, .unset]) rfl ?_
    show Steps p.tables e below (T1.setTop (mkF m 37 #[.val (.int p0), .val (.int p1), .val (.int p2), .val (.int (2 : Int32)), .val (.ref s_UTF8), .unset, .unset] [])) _
    refine XS.iloadN X1.here hx rfl (hb hby at_37) rfl ?_
    show Steps p.tables e below (T1.setTop (mkF m 38 #[.val (.int p0), .val (.int p1), .val (.int p2), .val (.int (2 : Int32)), .val (.ref s_UTF8), .unset, .unset] [(.int p2)])) _
    refine XS.bipush X1.here hx rfl (hb hby at_38) ?_
    show Steps p.tables e below (T1.setTop (mkF m 40 #[.val (.int p0), .val (.int p1), .val (.int p2), .val (.int (2 : Int32)), .val (.ref s_UTF8), .unset, .unset] [(.int (8 : Int32)), (.int p2)])) _
    refine XS.iand X1.here hx rfl (hb hby at_40) rfl ?_
    show Steps p.tables e below (T1.setTop (mkF m 41 #[.val (.int p0), .val (.int p1), .val (.int p2), .val (.int (2 : Int32)), .val (.ref s_UTF8), .unset, .unset] [(.int (p2 &&& (8 : Int32)))])) _
    rw [hb1]
    show Steps p.tables e below (T1.setTop (mkF m 41 #[.val (.int p0), .val (.int p1), .val (.int p2), .val (.int (2 : Int32)), .val (.ref s_UTF8), .unset, .unset] [(.int (8 : Int32))])) _
    refine XS.ifNo X1.here hx rfl (hb hby at_41) rfl (by decide +kernel) ?_
    show Steps p.tables e below (T1.setTop (mkF m 44 #[.val (.int p0), .val (.int p1), .val (.int p2), .val (.int (2 : Int32)), .val (.ref s_UTF8), .unset, .unset] [])) _
    refine XS.iloadN X1.here hx rfl (hb hby at_44) rfl ?_
    show Steps p.tables e below (T1.setTop (mkF m 45 #[.val (.int p0), .val (.int p1), .val (.int p2), .val (.int (2 : Int32)), .val (.ref s_UTF8), .unset, .unset] [(.int p1)])) _
    refine XS.istore X1.here hx rfl (hb hby at_45) rfl (l' := #[.val (.int p0), .val (.int p1), .val (.int p2), .val (.int (2 : Int32)), .val (.ref s_UTF8), .val (.int p1), .unset]) rfl ?_
    show Steps p.tables e below (T1.setTop (mkF m 47 #[.val (.int p0), .val (.int p1), .val (.int p2), .val (.int (2 : Int32)), .val (.ref s_UTF8), .val (.int p1), .unset] [])) _
    refine XS.goto X1.here hx rfl (pc0 := 47) (pc' := 66) rfl (hb hby at_47) (by decide) (by decide) ?_
    show Steps p.tables e below (T1.setTop (mkF m 66 #[.val (.int p0), .val (.int p1), .val (.int p2), .val (.int (2 : Int32)), .val (.ref s_UTF8), .val (.int p1), .unset] [])) _
    refine XS.iloadN X1.here hx rfl (hb hby at_66) rfl ?_
    show Steps p.tables e below (T1.setTop (mkF m 67 #[.val (.int p0), .val (.int p1), .val (.int p2), .val (.int (2 : Int32)), .val (.ref s_UTF8), .val (.int p1), .unset] [(.int (2 : Int32))])) _
    refine XS.ifYes X1.here hx rfl (pc0 := 67) (pc' := 92) rfl (hb hby at_67) rfl (by decide +kernel) (by decide) (by decide) ?_
    show Steps p.tables e below (T1.setTop (mkF m 92 #[.val (.int p0), .val (.int p1), .val (.int p2), .val (.int (2 : Int32)), .val (.ref s_UTF8), .val (.int p1), .unset] [])) _
    refine XS.iloadN X1.here hx rfl (hb hby at_92) rfl ?_
    show Steps p.tables e below (T1.setTop (mkF m 93 #[.val (.int p0), .val (.int p1), .val (.int p2), .val (.int (2 : Int32)), .val (.ref s_UTF8), .val (.int p1), .unset] [(.int (2 : Int32))])) _
    refine XS.iconst X1.here hx rfl (hb hby at_93) ?_
    show Steps p.tables e below (T1.setTop (mkF m 94 #[.val (.int p0), .val (.int p1), .val (.int p2), .val (.int (2 : Int32)), .val (.ref s_UTF8), .val (.int p1), .unset] [(.int (1 : Int32)), (.int (2 : Int32))])) _
    refine XS.icmpYes X1.here hx rfl (pc0 := 94) (pc' := 133) rfl (hb hby at_94) rfl (by decide +kernel) (by decide) (by decide) ?_
    show Steps p.tables e below (T1.setTop (mkF m 133 #[.val (.int p0), .val (.int p1), .val (.int p2), .val (.int (2 : Int32)), .val (.ref s_UTF8), .val (.int p1), .unset] [])) _
    refine XS.iload X1.here hx rfl (hb hby at_133) rfl ?_
    show Steps p.tables e below (T1.setTop (mkF m 135 #[.val (.int p0), .val (.int p1), .val (.int p2), .val (.int (2 : Int32)), .val (.ref s_UTF8), .val (.int p1), .unset] [(.int p1)])) _
    refine XS.ifNo X1.here hx rfl (hb hby at_135) rfl hc_lt_0 ?_
    show Steps p.tables e below (T1.setTop (mkF m 138 #[.val (.int p0), .val (.int p1), .val (.int p2), .val (.int (2 : Int32)), .val (.ref s_UTF8), .val (.int p1), .unset] [])) _
    refine XS.iload X1.here hx rfl (hb hby at_138) rfl ?_
    show Steps p.tables e below (T1.setTop (mkF m 140 #[.val (.int p0), .val (.int p1), .val (.int p2), .val (.int (2 : Int32)), .val (.ref s_UTF8), .val (.int p1), .unset] [(.int p1)])) _
    refine X1.ldcInt hx hown (mvT hZ (hw _ (List.mem_of_getElem? (i := 8) rfl))) (g := (mkF m 140 #[.val (.int p0), .val (.int p1), .val (.int p2), .val (.int (2 : Int32)), .val (.ref s_UTF8), .val (.int p1), .unset] [(.int p1)])) rfl (hb hby at_140) _ ?_
    show Steps p.tables e below (T1.setTop (mkF m 142 #[.val (.int p0), .val (.int p1), .val (.int p2), .val (.int (2 : Int32)), .val (.ref s_UTF8), .val (.int p1), .unset] [(.int (55296 : Int32)), (.int p1)])) _
    refine XS.icmpNo X1.here hx rfl (hb hby at_142) rfl hc_lt_55296 ?_
    show Steps p.tables e below (T1.setTop (mkF m 145 #[.val (.int p0), .val (.int p1), .val (.int p2), .val (.int (2 : Int32)), .val (.ref s_UTF8), .val (.int p1), .unset] [])) _
    refine XS.iload X1.here hx rfl (hb hby at_145) rfl ?_
    show Steps p.tables e below (T1.setTop (mkF m 147 #[.val (.int p0), .val (.int p1), .val (.int p2), .val (.int (2 : Int32)), .val (.ref s_UTF8), .val (.int p1), .unset] [(.int p1)])) _
    refine X1.ldcInt hx hown (mvT hZ (hw _ (List.mem_of_getElem? (i := 19) rfl))) (g := (mkF m 147 #[.val (.int p0), .val (.int p1), .val (.int p2), .val (.int (2 : Int32)), .val (.ref s_UTF8), .val (.int p1), .unset] [(.int p1)])) rfl (hb hby at_147) _ ?_
    show Steps p.tables e below (T1.setTop (mkF m 149 #[.val (.int p0), .val (.int p1), .val (.int p2), .val (.int (2 : Int32)), .val (.ref s_UTF8), .val (.int p1), .unset] [(.int (57344 : Int32)), (.int p1)])) _
    refine XS.icmpNo X1.here hx rfl (hb hby at_149) rfl hc_lt_57344 ?_
    show Steps p.tables e below (T1.setTop (mkF m 152 #[.val (.int p0), .val (.int p1), .val (.int p2), .val (.int (2 : Int32)), .val (.ref s_UTF8), .val (.int p1), .unset] [])) _
    refine XS.iload X1.here hx rfl (hb hby at_152) rfl ?_
    show Steps p.tables e below (T1.setTop (mkF m 154 #[.val (.int p0), .val (.int p1), .val (.int p2), .val (.int (2 : Int32)), .val (.ref s_UTF8), .val (.int p1), .unset] [(.int p1)])) _
    refine X1.ldcInt hx hown (mvT hZ (hw _ (List.mem_of_getElem? (i := 25) rfl))) (g := (mkF m 154 #[.val (.int p0), .val (.int p1), .val (.int p2), .val (.int (2 : Int32)), .val (.ref s_UTF8), .val (.int p1), .unset] [(.int p1)])) rfl (hb hby at_154) _ ?_
    show Steps p.tables e below (T1.setTop (mkF m 156 #[.val (.int p0), .val (.int p1), .val (.int p2), .val (.int (2 : Int32)), .val (.ref s_UTF8), .val (.int p1), .unset] [(.int (1114111 : Int32)), (.int p1)])) _
    refine XS.icmpNo X1.here hx rfl (hb hby at_156) rfl hc_gt_1114111 ?_
    show Steps p.tables e below (T1.setTop (mkF m 159 #[.val (.int p0), .val (.int p1), .val (.int p2), .val (.int (2 : Int32)), .val (.ref s_UTF8), .val (.int p1), .unset] [])) _
    refine XS.iconst X1.here hx rfl (hb hby at_159) ?_
    show Steps p.tables e below (T1.setTop (mkF m 160 #[.val (.int p0), .val (.int p1), .val (.int p2), .val (.int (2 : Int32)), .val (.ref s_UTF8), .val (.int p1), .unset] [(.int (1 : Int32))])) _
    refine XS.goto X1.here hx rfl (pc0 := 160) (pc' := 164) rfl (hb hby at_160) (by decide) (by decide) ?_
    show Steps p.tables e below (T1.setTop (mkF m 164 #[.val (.int p0), .val (.int p1), .val (.int p2), .val (.int (2 : Int32)), .val (.ref s_UTF8), .val (.int p1), .unset] [(.int (1 : Int32))])) _
    refine XS.istore X1.here hx rfl (hb hby at_164) rfl (l' := #[.val (.int p0), .val (.int p1), .val (.int p2), .val (.int (2 : Int32)), .val (.ref s_UTF8), .val (.int p1), .val (.int (1 : Int32))]) rfl ?_
    show Steps p.tables e below (T1.setTop (mkF m 166 #[.val (.int p0), .val (.int p1), .val (.int p2), .val (.int (2 : Int32)), .val (.ref s_UTF8), .val (.int p1), .val (.int (1 : Int32))] [])) _
    refine XS.aload X1.here hx rfl (hb hby at_166) rfl rfl ?_
    show Steps p.tables e below (T1.setTop (mkF m 168 #[.val (.int p0), .val (.int p1), .val (.int p2), .val (.int (2 : Int32)), .val (.ref s_UTF8), .val (.int p1), .val (.int (1 : Int32))] [(.ref s_UTF8)])) _
    refine XS.iload X1.here hx rfl (hb hby at_168) rfl ?_
    show Steps p.tables e below (T1.setTop (mkF m 170 #[.val (.int p0), .val (.int p1), .val (.int p2), .val (.int (2 : Int32)), .val (.ref s_UTF8), .val (.int p1), .val (.int (1 : Int32))] [(.int p1), (.ref s_UTF8)])) _
    refine st2.trans ?_
    show Steps p.tables e below (T2.setTop (mkF m 173 #[.val (.int p0), .val (.int p1), .val (.int p2), .val (.int (2 : Int32)), .val (.ref s_UTF8), .val (.int p1), .val (.int (1 : Int32))] [(.int (1 : Int32))])) _
    refine XS.iload X2.here hx rfl (hb hby at_173) rfl ?_
    show Steps p.tables e below (T2.setTop (mkF m 175 #[.val (.int p0), .val (.int p1), .val (.int p2), .val (.int (2 : Int32)), .val (.ref s_UTF8), .val (.int p1), .val (.int (1 : Int32))] [(.int (1 : Int32)), (.int (1 : Int32))])) _
    refine XS.icmpNo X2.here hx rfl (hb hby at_175) rfl (by decide +kernel) ?_
    show Steps p.tables e below (T2.setTop (mkF m 178 #[.val (.int p0), .val (.int p1), .val (.int p2), .val (.int (2 : Int32)), .val (.ref s_UTF8), .val (.int p1), .val (.int (1 : Int32))] [])) _
    refine XS.iconst X2.here hx rfl (hb hby at_178) ?_
    show Steps p.tables e below (T2.setTop (mkF m 179 #[.val (.int p0), .val (.int p1), .val (.int p2), .val (.int (2 : Int32)), .val (.ref s_UTF8), .val (.int p1), .val (.int (1 : Int32))] [(.int (1 : Int32))])) _
    refine XS.goto X2.here hx rfl (pc0 := 179) (pc' := 183) rfl (hb hby at_179) (by decide) (by decide) ?_
    show Steps p.tables e below (T2.setTop (mkF m 183 #[.val (.int p0), .val (.int p1), .val (.int p2), .val (.int (2 : Int32)), .val (.ref s_UTF8), .val (.int p1), .val (.int (1 : Int32))] [(.int (1 : Int32))])) _
    exact retN X2 hx (t := .boolean) Bd.returns (by simp) (hb hby at_183) hr
  · exact ⟨rfl, N2, e2⟩
set_option maxRecDepth 65536 in
set_option maxHeartbeats 40000000 in
theorem r58 (l : Launch) (Z : State) (a0 : Array Value) (hw : ∀ d ∈ tables_1, d.before a0 Z = true) (ws : List Jvm.Cond) (h0 : Heap) (n0 : Nat) (s_IA5 : Addr) (s_BMP : Addr) (s_UTF8 : Addr) (K : Ctx Z h0 s_IA5 s_BMP s_UTF8) (p1 : Int32) (hc_lt_0 : ifCond.holds .lt p1 = false) (hc_gt_1114111 : if_icmp.holds .gt p1 (1114111 : Int32) = true) :
    MetFree l (⟨"com/example/plainwire/plainwire/definitions/Repertoire", "holds", "(I)Z"⟩ : MethodName) (head1 (Jvm.Cond.code (⟨"com/example/plainwire/plainwire/definitions/Repertoire", "holds", "(I)Z"⟩ : MethodName) prog_37_method_5_code 2 (some .boolean) :: ws) ({ frames := 0, cells := 0, slots := 0, locals := 0 } : Room)) (fun a U => a = #[(.ref s_UTF8), (.int p1)] ∧ Z.Warmed39 U.vm ∧ U.heap = h0) (fun _ _ _ _ _ => True) (fun _ U o U' => ∃ v L, o = .returned v ∧ QV (.int (0 : Int32)) h0 n0 v U'.heap L ∧ FrameEnd U o U' L ({ frames := 0, cells := 0, slots := 0, locals := 0 } : Room).cells ({ frames := 0, cells := 0, slots := 0, locals := 0 } : Room).slots) := by
  obtain ⟨S_IA5, E_IA5, F_IA5_lastCodePoint, S_BMP, E_BMP, F_BMP_lastCodePoint, S_UTF8, E_UTF8, F_UTF8_lastCodePoint⟩ := id K
  refine MetFree.of_bodySF (plainFor_of_name pn1) hisR ?_
  intro p e s m args below meth c s₁ Bd hml0 hP hK
  obtain ⟨rfl, hZ, hh⟩ := hP
  have hx := Bd.exec
  have hby := Bd.bytes
  have hml : c.maxLocals = 2 := hml0
  have hown : s.vm.findClass "com/example/plainwire/plainwire/definitions/Repertoire" = some m.cls := findClass_of_methodNamed Bd.named
  have X0 : Stand p l e ({ frames := 0, cells := 0, slots := 0, locals := 0 } : Room) s m #[(.ref s_UTF8), (.int p1)] below meth c s₁ [] 0 0 := Stand.of_body Bd
  have e0 : s₁.heap = h0 := by rw [← hh, Bd.state]; rfl
  have N0 := Fr.nil n0
  have pre0 : ∀ t, Steps p.tables e below (s₁.setTop (mkF m 0 #[.val (.ref s_UTF8), .val (.int p1)] [])) t → Steps p.tables e below (s₁.setTop (entryFrame m #[(.ref s_UTF8), (.int p1)] 2)) t := fun t k => castTop (by first | (simp [entryFrame, mkF, argsToLocals, Value.category]; done) | rfl) k
  obtain ⟨T1, X1, e1, st1⟩ := getF X0 hx hZ hown (host := "") (Or.inl (hw _ (List.mem_of_getElem? (i := 14) rfl))) Via.refl e0 F_UTF8_lastCodePoint (g := (mkF m 6 #[.val (.ref s_UTF8), .val (.int p1)] [(.ref s_UTF8), (.int p1)])) rfl rfl (hb hby d1_6)
  obtain ⟨fs, hr, hrun, hended, hW, hsame⟩ := X1.leave (v := some (.int (0 : Int32))) (fun h => by rw [Bd.returns] at h; cases h)
  refine ⟨_, _, pre0 _ ?_, hrun, hended, _, _, rfl, ?_, ⟨_, rfl⟩, hW, hsame.mono (by decide) (by decide)⟩
  · show Steps p.tables e below (s₁.setTop (mkF m 0 #[.val (.ref s_UTF8), .val (.int p1)] [])) _
    refine XS.iloadN X0.here hx rfl (hb hby d1_0) rfl ?_
    show Steps p.tables e below (s₁.setTop (mkF m 1 #[.val (.ref s_UTF8), .val (.int p1)] [(.int p1)])) _
    refine XS.ifNo X0.here hx rfl (hb hby d1_1) rfl hc_lt_0 ?_
    show Steps p.tables e below (s₁.setTop (mkF m 4 #[.val (.ref s_UTF8), .val (.int p1)] [])) _
    refine XS.iloadN X0.here hx rfl (hb hby d1_4) rfl ?_
    show Steps p.tables e below (s₁.setTop (mkF m 5 #[.val (.ref s_UTF8), .val (.int p1)] [(.int p1)])) _
    refine XS.aloadN X0.here hx rfl (hb hby d1_5) rfl rfl ?_
    show Steps p.tables e below (s₁.setTop (mkF m 6 #[.val (.ref s_UTF8), .val (.int p1)] [(.ref s_UTF8), (.int p1)])) _
    refine st1 _ ?_
    show Steps p.tables e below (T1.setTop (mkF m 9 #[.val (.ref s_UTF8), .val (.int p1)] [(.int (1114111 : Int32)), (.int p1)])) _
    refine XS.icmpYes X1.here hx rfl (pc0 := 9) (pc' := 28) rfl (hb hby d1_9) rfl hc_gt_1114111 (by decide) (by decide) ?_
    show Steps p.tables e below (T1.setTop (mkF m 28 #[.val (.ref s_UTF8), .val (.int p1)] [])) _
    refine XS.iconst X1.here hx rfl (hb hby d1_28) ?_
    show Steps p.tables e below (T1.setTop (mkF m 29 #[.val (.ref s_UTF8), .val (.int p1)] [(.int (0 : Int32))])) _
    exact retN X1 hx (t := .boolean) Bd.returns (by simp) (hb hby d1_29) hr
  · exact ⟨rfl, N0, e1⟩
set_option maxRecDepth 65536 in
set_option maxHeartbeats 40000000 in
theorem law_k2_8_4 (l : Launch) (Z : State) (a0 : Array Value) (hw : ∀ d ∈ tables_1, d.before a0 Z = true) (ws : List Jvm.Cond) (h0 : Heap) (n0 : Nat) (s_IA5 : Addr) (s_BMP : Addr) (s_UTF8 : Addr) (K : Ctx Z h0 s_IA5 s_BMP s_UTF8) (p0 : Int32) (p1 : Int32) (p2 : Int32) (ha : ((p0 &&& (2147483647 : Int32)) % (3 : Int32)) = (2 : Int32)) (hb1 : (p2 &&& (8 : Int32)) = (8 : Int32)) (hc_lt_0 : ifCond.holds .lt p1 = false) (hc_lt_55296 : if_icmp.holds .lt p1 (55296 : Int32) = false) (hc_lt_57344 : if_icmp.holds .lt p1 (57344 : Int32) = false) (hc_gt_1114111 : if_icmp.holds .gt p1 (1114111 : Int32) = true) :
    MetFree l x (head1 (Jvm.Cond.code x code maxLocals ret :: ws) room_1) (fun a U => a = #[(.int p0), (.int p1), (.int p2)] ∧ Z.Warmed39 U.vm ∧ U.heap = h0) (fun _ _ _ _ _ => True) (fun _ U o U' => ∃ v L, o = .returned v ∧ QV (.int (1 : Int32)) h0 n0 v U'.heap L ∧ FrameEnd U o U' L room_1.cells room_1.slots) := by
  obtain ⟨S_IA5, E_IA5, F_IA5_lastCodePoint, S_BMP, E_BMP, F_BMP_lastCodePoint, S_UTF8, E_UTF8, F_UTF8_lastCodePoint⟩ := id K
  refine MetFree.of_bodySF (plainFor_of_name pn2) hisR ?_
  intro p e s m args below meth c s₁ Bd hml0 hP hK
  obtain ⟨rfl, hZ, hh⟩ := hP
  have hx := Bd.exec
  have hby := Bd.bytes
  have hml : c.maxLocals = 7 := hml0
  have hown : s.vm.findClass "com/example/plainwire/plainwire/definitions/RepertoireHoldsPinLaw" = some m.cls := findClass_of_methodNamed Bd.named
  have X0 : Stand p l e room_1 s m #[(.int p0), (.int p1), (.int p2)] below meth c s₁ [] 0 0 := Stand.of_body Bd
  have e0 : s₁.heap = h0 := by rw [← hh, Bd.state]; rfl
  have N0 := Fr.nil n0
  have pre0 : ∀ t, Steps p.tables e below (s₁.setTop (mkF m 0 #[.val (.int p0), .val (.int p1), .val (.int p2), .unset, .unset, .unset, .unset] [])) t → Steps p.tables e below (s₁.setTop (entryFrame m #[(.int p0), (.int p1), (.int p2)] maxLocals)) t := fun t k => castTop (by first | (simp [entryFrame, mkF, argsToLocals, Value.category, maxLocals]; done) | rfl) k
  obtain ⟨T1, X1, e1, st1⟩ := getS X0 hx hZ hown (host := "") (hw _ (List.mem_of_getElem? (i := 23) rfl)) Via.refl e0 S_UTF8 (g := (mkF m 32 #[.val (.int p0), .val (.int p1), .val (.int p2), .val (.int (2 : Int32)), .unset, .unset, .unset] [])) rfl (hb hby at_32)
  obtain ⟨cq2, kq2, q2a, q2b, q2c⟩ := isOf hZ e1 E_UTF8
  obtain ⟨_, _, ⟨T2, L2, k2, n2⟩, -, X2, ⟨Lc2, hQ2, l2, y2, z2⟩, st2⟩ := X1.virtualBack hx (y := (⟨"com/example/plainwire/plainwire/definitions/Repertoire", "holds", "(I)Z"⟩ : MethodName)) (z := (⟨"com/example/plainwire/plainwire/definitions/Repertoire", "holds", "(I)Z"⟩ : MethodName)) hown (mvT hZ (hw _ (List.mem_of_getElem? (i := 9) rfl))) (mvT hZ (hw _ (List.mem_of_getElem? (i := 10) rfl))) (notFace_of_selects (args := #[]) (mvT hZ (hw _ (List.mem_of_getElem? (i := 12) rfl)))) (mvT hZ (hw _ (List.mem_of_getElem? (i := 12) rfl))) (mvT hZ (hw _ (List.mem_of_getElem? (i := 11) rfl))) (by decide) (backOf (W := 0) (r58 l Z a0 hw [] h0 n0 s_IA5 s_BMP s_UTF8 K p1 hc_lt_0 hc_gt_1114111) hZ (hw _ (List.mem_of_getElem? (i := 13) rfl)) (hw _ (List.mem_of_getElem? (i := 2) rfl)) (by decide) (by decide)) q2a q2c (g := (mkF m 170 #[.val (.int p0), .val (.int p1), .val (.int p2), .val (.int (2 : Int32)), .val (.ref s_UTF8), .val (.int p1), .val (.int (0 : Int32))] [(.int p1), (.ref s_UTF8)])) rfl (by rw [hml]; rfl) (Steps.refl _) (argsL := [(.int p1)]) (rest := []) (lenOf pd1 rfl) rfl (by show 2 * 0 + _ ≤ _; exact Nat.le_of_eq rfl) (hb hby at_170) (fun _ _ => ⟨rfl, e1, (by decide : 0 + 0 ≤ _), (by decide : 0 + 0 ≤ _)⟩)
  dsimp only [Pt.U, Pt.locs, Pt.cells, Pt.slots] at X2 l2 y2 z2 st2 hQ2
  subst l2 y2 z2
  obtain ⟨rfl, N2q, e2⟩ := hQ2
  have N2 := Fr.app N0 N2q
  obtain ⟨fs, hr, hrun, hended, hW, hsame⟩ := X2.leave (v := some (.int (1 : Int32))) (fun h => by rw [Bd.returns] at h; cases h)
  refine ⟨_, _, pre0 _ ?_, hrun, hended, _, _, rfl, ?_, ⟨_, rfl⟩, hW, hsame.mono (by decide) (by decide)⟩
  · show Steps p.tables e below (s₁.setTop (mkF m 0 #[.val (.int p0), .val (.int p1), .val (.int p2), .unset, .unset, .unset, .unset] [])) _
    refine XS.iloadN X0.here hx rfl (hb hby at_0) rfl ?_
    show Steps p.tables e below (s₁.setTop (mkF m 1 #[.val (.int p0), .val (.int p1), .val (.int p2), .unset, .unset, .unset, .unset] [(.int p0)])) _
    refine X0.ldcInt hx hown (mvT hZ (hw _ (List.mem_of_getElem? (i := 0) rfl))) (g := (mkF m 1 #[.val (.int p0), .val (.int p1), .val (.int p2), .unset, .unset, .unset, .unset] [(.int p0)])) rfl (hb hby at_1) _ ?_
    show Steps p.tables e below (s₁.setTop (mkF m 3 #[.val (.int p0), .val (.int p1), .val (.int p2), .unset, .unset, .unset, .unset] [(.int (2147483647 : Int32)), (.int p0)])) _
    refine XS.iand X0.here hx rfl (hb hby at_3) rfl ?_
    show Steps p.tables e below (s₁.setTop (mkF m 4 #[.val (.int p0), .val (.int p1), .val (.int p2), .unset, .unset, .unset, .unset] [(.int (p0 &&& (2147483647 : Int32)))])) _
    refine XS.iconst X0.here hx rfl (hb hby at_4) ?_
    show Steps p.tables e below (s₁.setTop (mkF m 5 #[.val (.int p0), .val (.int p1), .val (.int p2), .unset, .unset, .unset, .unset] [(.int (3 : Int32)), (.int (p0 &&& (2147483647 : Int32)))])) _
    refine Jvm.RoadKit.iremM X0 hx rfl (hb hby at_5) rfl (by decide) ?_
    show Steps p.tables e below (s₁.setTop (mkF m 6 #[.val (.int p0), .val (.int p1), .val (.int p2), .unset, .unset, .unset, .unset] [(.int ((p0 &&& (2147483647 : Int32)) % (3 : Int32)))])) _
    rw [ha]
    show Steps p.tables e below (s₁.setTop (mkF m 6 #[.val (.int p0), .val (.int p1), .val (.int p2), .unset, .unset, .unset, .unset] [(.int (2 : Int32))])) _
    refine XS.istoreN X0.here hx rfl (hb hby at_6) rfl (l' := #[.val (.int p0), .val (.int p1), .val (.int p2), .val (.int (2 : Int32)), .unset, .unset, .unset]) rfl ?_
    show Steps p.tables e below (s₁.setTop (mkF m 7 #[.val (.int p0), .val (.int p1), .val (.int p2), .val (.int (2 : Int32)), .unset, .unset, .unset] [])) _
    refine XS.iloadN X0.here hx rfl (hb hby at_7) rfl ?_
    show Steps p.tables e below (s₁.setTop (mkF m 8 #[.val (.int p0), .val (.int p1), .val (.int p2), .val (.int (2 : Int32)), .unset, .unset, .unset] [(.int (2 : Int32))])) _
    refine XS.ifYes X0.here hx rfl (pc0 := 8) (pc' := 19) rfl (hb hby at_8) rfl (by decide +kernel) (by decide) (by decide) ?_
    show Steps p.tables e below (s₁.setTop (mkF m 19 #[.val (.int p0), .val (.int p1), .val (.int p2), .val (.int (2 : Int32)), .unset, .unset, .unset] [])) _
    refine XS.iloadN X0.here hx rfl (hb hby at_19) rfl ?_
    show Steps p.tables e below (s₁.setTop (mkF m 20 #[.val (.int p0), .val (.int p1), .val (.int p2), .val (.int (2 : Int32)), .unset, .unset, .unset] [(.int (2 : Int32))])) _
    refine XS.iconst X0.here hx rfl (hb hby at_20) ?_
    show Steps p.tables e below (s₁.setTop (mkF m 21 #[.val (.int p0), .val (.int p1), .val (.int p2), .val (.int (2 : Int32)), .unset, .unset, .unset] [(.int (1 : Int32)), (.int (2 : Int32))])) _
    refine XS.icmpYes X0.here hx rfl (pc0 := 21) (pc' := 32) rfl (hb hby at_21) rfl (by decide +kernel) (by decide) (by decide) ?_
    show Steps p.tables e below (s₁.setTop (mkF m 32 #[.val (.int p0), .val (.int p1), .val (.int p2), .val (.int (2 : Int32)), .unset, .unset, .unset] [])) _
    refine st1 _ ?_
    show Steps p.tables e below (T1.setTop (mkF m 35 #[.val (.int p0), .val (.int p1), .val (.int p2), .val (.int (2 : Int32)), .unset, .unset, .unset] [(.ref s_UTF8)])) _
    refine XS.astore X1.here hx rfl (hb hby at_35) rfl rfl (l' := #[.val (.int p0), .val (.int p1), .val (.int p2), .val (.int (2 : Int32)), .val (.ref s_UTF8), .unset, .unset]) rfl ?_
    show Steps p.tables e below (T1.setTop (mkF m 37 #[.val (.int p0), .val (.int p1), .val (.int p2), .val (.int (2 : Int32)), .val (.ref s_UTF8), .unset, .unset] [])) _
    refine XS.iloadN X1.here hx rfl (hb hby at_37) rfl ?_
    show Steps p.tables e below (T1.setTop (mkF m 38 #[.val (.int p0), .val (.int p1), .val (.int p2), .val (.int (2 : Int32)), .val (.ref s_UTF8), .unset, .unset] [(.int p2)])) _
    refine XS.bipush X1.here hx rfl (hb hby at_38) ?_
    show Steps p.tables e below (T1.setTop (mkF m 40 #[.val (.int p0), .val (.int p1), .val (.int p2), .val (.int (2 : Int32)), .val (.ref s_UTF8), .unset, .unset] [(.int (8 : Int32)), (.int p2)])) _
    refine XS.iand X1.here hx rfl (hb hby at_40) rfl ?_
    show Steps p.tables e below (T1.setTop (mkF m 41 #[.val (.int p0), .val (.int p1), .val (.int p2), .val (.int (2 : Int32)), .val (.ref s_UTF8), .unset, .unset] [(.int (p2 &&& (8 : Int32)))])) _
    rw [hb1]
    show Steps p.tables e below (T1.setTop (mkF m 41 #[.val (.int p0), .val (.int p1), .val (.int p2), .val (.int (2 : Int32)), .val (.ref s_UTF8), .unset, .unset] [(.int (8 : Int32))])) _
    refine XS.ifNo X1.here hx rfl (hb hby at_41) rfl (by decide +kernel) ?_
    show Steps p.tables e below (T1.setTop (mkF m 44 #[.val (.int p0), .val (.int p1), .val (.int p2), .val (.int (2 : Int32)), .val (.ref s_UTF8), .unset, .unset] [])) _
    refine XS.iloadN X1.here hx rfl (hb hby at_44) rfl ?_
    show Steps p.tables e below (T1.setTop (mkF m 45 #[.val (.int p0), .val (.int p1), .val (.int p2), .val (.int (2 : Int32)), .val (.ref s_UTF8), .unset, .unset] [(.int p1)])) _
    refine XS.istore X1.here hx rfl (hb hby at_45) rfl (l' := #[.val (.int p0), .val (.int p1), .val (.int p2), .val (.int (2 : Int32)), .val (.ref s_UTF8), .val (.int p1), .unset]) rfl ?_
    show Steps p.tables e below (T1.setTop (mkF m 47 #[.val (.int p0), .val (.int p1), .val (.int p2), .val (.int (2 : Int32)), .val (.ref s_UTF8), .val (.int p1), .unset] [])) _
    refine XS.goto X1.here hx rfl (pc0 := 47) (pc' := 66) rfl (hb hby at_47) (by decide) (by decide) ?_
    show Steps p.tables e below (T1.setTop (mkF m 66 #[.val (.int p0), .val (.int p1), .val (.int p2), .val (.int (2 : Int32)), .val (.ref s_UTF8), .val (.int p1), .unset] [])) _
    refine XS.iloadN X1.here hx rfl (hb hby at_66) rfl ?_
    show Steps p.tables e below (T1.setTop (mkF m 67 #[.val (.int p0), .val (.int p1), .val (.int p2), .val (.int (2 : Int32)), .val (.ref s_UTF8), .val (.int p1), .unset] [(.int (2 : Int32))])) _
    refine XS.ifYes X1.here hx rfl (pc0 := 67) (pc' := 92) rfl (hb hby at_67) rfl (by decide +kernel) (by decide) (by decide) ?_
    show Steps p.tables e below (T1.setTop (mkF m 92 #[.val (.int p0), .val (.int p1), .val (.int p2), .val (.int (2 : Int32)), .val (.ref s_UTF8), .val (.int p1), .unset] [])) _
    refine XS.iloadN X1.here hx rfl (hb hby at_92) rfl ?_
    show Steps p.tables e below (T1.setTop (mkF m 93 #[.val (.int p0), .val (.int p1), .val (.int p2), .val (.int (2 : Int32)), .val (.ref s_UTF8), .val (.int p1), .unset] [(.int (2 : Int32))])) _
    refine XS.iconst X1.here hx rfl (hb hby at_93) ?_
    show Steps p.tables e below (T1.setTop (mkF m 94 #[.val (.int p0), .val (.int p1), .val (.int p2), .val (.int (2 : Int32)), .val (.ref s_UTF8), .val (.int p1), .unset] [(.int (1 : Int32)), (.int (2 : Int32))])) _
    refine XS.icmpYes X1.here hx rfl (pc0 := 94) (pc' := 133) rfl (hb hby at_94) rfl (by decide +kernel) (by decide) (by decide) ?_
    show Steps p.tables e below (T1.setTop (mkF m 133 #[.val (.int p0), .val (.int p1), .val (.int p2), .val (.int (2 : Int32)), .val (.ref s_UTF8), .val (.int p1), .unset] [])) _
    refine XS.iload X1.here hx rfl (hb hby at_133) rfl ?_
    show Steps p.tables e below (T1.setTop (mkF m 135 #[.val (.int p0), .val (.int p1), .val (.int p2), .val (.int (2 : Int32)), .val (.ref s_UTF8), .val (.int p1), .unset] [(.int p1)])) _
    refine XS.ifNo X1.here hx rfl (hb hby at_135) rfl hc_lt_0 ?_
    show Steps p.tables e below (T1.setTop (mkF m 138 #[.val (.int p0), .val (.int p1), .val (.int p2), .val (.int (2 : Int32)), .val (.ref s_UTF8), .val (.int p1), .unset] [])) _
    refine XS.iload X1.here hx rfl (hb hby at_138) rfl ?_
    show Steps p.tables e below (T1.setTop (mkF m 140 #[.val (.int p0), .val (.int p1), .val (.int p2), .val (.int (2 : Int32)), .val (.ref s_UTF8), .val (.int p1), .unset] [(.int p1)])) _
    refine X1.ldcInt hx hown (mvT hZ (hw _ (List.mem_of_getElem? (i := 8) rfl))) (g := (mkF m 140 #[.val (.int p0), .val (.int p1), .val (.int p2), .val (.int (2 : Int32)), .val (.ref s_UTF8), .val (.int p1), .unset] [(.int p1)])) rfl (hb hby at_140) _ ?_
    show Steps p.tables e below (T1.setTop (mkF m 142 #[.val (.int p0), .val (.int p1), .val (.int p2), .val (.int (2 : Int32)), .val (.ref s_UTF8), .val (.int p1), .unset] [(.int (55296 : Int32)), (.int p1)])) _
    refine XS.icmpNo X1.here hx rfl (hb hby at_142) rfl hc_lt_55296 ?_
    show Steps p.tables e below (T1.setTop (mkF m 145 #[.val (.int p0), .val (.int p1), .val (.int p2), .val (.int (2 : Int32)), .val (.ref s_UTF8), .val (.int p1), .unset] [])) _
    refine XS.iload X1.here hx rfl (hb hby at_145) rfl ?_
    show Steps p.tables e below (T1.setTop (mkF m 147 #[.val (.int p0), .val (.int p1), .val (.int p2), .val (.int (2 : Int32)), .val (.ref s_UTF8), .val (.int p1), .unset] [(.int p1)])) _
    refine X1.ldcInt hx hown (mvT hZ (hw _ (List.mem_of_getElem? (i := 19) rfl))) (g := (mkF m 147 #[.val (.int p0), .val (.int p1), .val (.int p2), .val (.int (2 : Int32)), .val (.ref s_UTF8), .val (.int p1), .unset] [(.int p1)])) rfl (hb hby at_147) _ ?_
    show Steps p.tables e below (T1.setTop (mkF m 149 #[.val (.int p0), .val (.int p1), .val (.int p2), .val (.int (2 : Int32)), .val (.ref s_UTF8), .val (.int p1), .unset] [(.int (57344 : Int32)), (.int p1)])) _
    refine XS.icmpNo X1.here hx rfl (hb hby at_149) rfl hc_lt_57344 ?_
    show Steps p.tables e below (T1.setTop (mkF m 152 #[.val (.int p0), .val (.int p1), .val (.int p2), .val (.int (2 : Int32)), .val (.ref s_UTF8), .val (.int p1), .unset] [])) _
    refine XS.iload X1.here hx rfl (hb hby at_152) rfl ?_
    show Steps p.tables e below (T1.setTop (mkF m 154 #[.val (.int p0), .val (.int p1), .val (.int p2), .val (.int (2 : Int32)), .val (.ref s_UTF8), .val (.int p1), .unset] [(.int p1)])) _
    refine X1.ldcInt hx hown (mvT hZ (hw _ (List.mem_of_getElem? (i := 25) rfl))) (g := (mkF m 154 #[.val (.int p0), .val (.int p1), .val (.int p2), .val (.int (2 : Int32)), .val (.ref s_UTF8), .val (.int p1), .unset] [(.int p1)])) rfl (hb hby at_154) _ ?_
    show Steps p.tables e below (T1.setTop (mkF m 156 #[.val (.int p0), .val (.int p1), .val (.int p2), .val (.int (2 : Int32)), .val (.ref s_UTF8), .val (.int p1), .unset] [(.int (1114111 : Int32)), (.int p1)])) _
    refine XS.icmpYes X1.here hx rfl (pc0 := 156) (pc' := 163) rfl (hb hby at_156) rfl hc_gt_1114111 (by decide) (by decide) ?_
    show Steps p.tables e below (T1.setTop (mkF m 163 #[.val (.int p0), .val (.int p1), .val (.int p2), .val (.int (2 : Int32)), .val (.ref s_UTF8), .val (.int p1), .unset] [])) _
    refine XS.iconst X1.here hx rfl (hb hby at_163) ?_
    show Steps p.tables e below (T1.setTop (mkF m 164 #[.val (.int p0), .val (.int p1), .val (.int p2), .val (.int (2 : Int32)), .val (.ref s_UTF8), .val (.int p1), .unset] [(.int (0 : Int32))])) _
    refine XS.istore X1.here hx rfl (hb hby at_164) rfl (l' := #[.val (.int p0), .val (.int p1), .val (.int p2), .val (.int (2 : Int32)), .val (.ref s_UTF8), .val (.int p1), .val (.int (0 : Int32))]) rfl ?_
    show Steps p.tables e below (T1.setTop (mkF m 166 #[.val (.int p0), .val (.int p1), .val (.int p2), .val (.int (2 : Int32)), .val (.ref s_UTF8), .val (.int p1), .val (.int (0 : Int32))] [])) _
    refine XS.aload X1.here hx rfl (hb hby at_166) rfl rfl ?_
    show Steps p.tables e below (T1.setTop (mkF m 168 #[.val (.int p0), .val (.int p1), .val (.int p2), .val (.int (2 : Int32)), .val (.ref s_UTF8), .val (.int p1), .val (.int (0 : Int32))] [(.ref s_UTF8)])) _
    refine XS.iload X1.here hx rfl (hb hby at_168) rfl ?_
    show Steps p.tables e below (T1.setTop (mkF m 170 #[.val (.int p0), .val (.int p1), .val (.int p2), .val (.int (2 : Int32)), .val (.ref s_UTF8), .val (.int p1), .val (.int (0 : Int32))] [(.int p1), (.ref s_UTF8)])) _
    refine st2.trans ?_
    show Steps p.tables e below (T2.setTop (mkF m 173 #[.val (.int p0), .val (.int p1), .val (.int p2), .val (.int (2 : Int32)), .val (.ref s_UTF8), .val (.int p1), .val (.int (0 : Int32))] [(.int (0 : Int32))])) _
    refine XS.iload X2.here hx rfl (hb hby at_173) rfl ?_
    show Steps p.tables e below (T2.setTop (mkF m 175 #[.val (.int p0), .val (.int p1), .val (.int p2), .val (.int (2 : Int32)), .val (.ref s_UTF8), .val (.int p1), .val (.int (0 : Int32))] [(.int (0 : Int32)), (.int (0 : Int32))])) _
    refine XS.icmpNo X2.here hx rfl (hb hby at_175) rfl (by decide +kernel) ?_
    show Steps p.tables e below (T2.setTop (mkF m 178 #[.val (.int p0), .val (.int p1), .val (.int p2), .val (.int (2 : Int32)), .val (.ref s_UTF8), .val (.int p1), .val (.int (0 : Int32))] [])) _
    refine XS.iconst X2.here hx rfl (hb hby at_178) ?_
    show Steps p.tables e below (T2.setTop (mkF m 179 #[.val (.int p0), .val (.int p1), .val (.int p2), .val (.int (2 : Int32)), .val (.ref s_UTF8), .val (.int p1), .val (.int (0 : Int32))] [(.int (1 : Int32))])) _
    refine XS.goto X2.here hx rfl (pc0 := 179) (pc' := 183) rfl (hb hby at_179) (by decide) (by decide) ?_
    show Steps p.tables e below (T2.setTop (mkF m 183 #[.val (.int p0), .val (.int p1), .val (.int p2), .val (.int (2 : Int32)), .val (.ref s_UTF8), .val (.int p1), .val (.int (0 : Int32))] [(.int (1 : Int32))])) _
    exact retN X2 hx (t := .boolean) Bd.returns (by simp) (hb hby at_183) hr
  · exact ⟨rfl, N2, e2⟩
theorem rm0 (l : Launch) (Z : State) (a0 : Array Value) (hw : ∀ d ∈ tables_1, d.before a0 Z = true) (ws : List Jvm.Cond) (h0 : Heap) (n0 : Nat) (s_IA5 : Addr) (s_BMP : Addr) (s_UTF8 : Addr) (K : Ctx Z h0 s_IA5 s_BMP s_UTF8) (p0 : Int32) (p1 : Int32) (p2 : Int32) :
    MetFree l x (head1 (Jvm.Cond.code x code maxLocals ret :: ws) room_1) (fun a U => a = #[(.int p0), (.int p1), (.int p2)] ∧ Z.Warmed39 U.vm ∧ U.heap = h0) (fun _ _ _ _ _ => True) (fun _ U o U' => ∃ v L, o = .returned v ∧ QV (.int (1 : Int32)) h0 n0 v U'.heap L ∧ FrameEnd U o U' L room_1.cells room_1.slots) := by
  have n127 : (127 : Int32).toInt = 127 := by decide +kernel
  have n55296 : (55296 : Int32).toInt = 55296 := by decide +kernel
  have n57344 : (57344 : Int32).toInt = 57344 := by decide +kernel
  have n57343 : (57343 : Int32).toInt = 57343 := by decide +kernel
  have n65535 : (65535 : Int32).toInt = 65535 := by decide +kernel
  have n1114111 : (1114111 : Int32).toInt = 1114111 := by decide +kernel
  rcases own_mod3 p0 with ha | ha | ha
  · rcases own_eight p2 with hb1 | hb1
    · rcases (by omega : (((own_bnd (p2 &&& (7 : Int32))) + ((p1 &&& (7 : Int32)) - (3 : Int32))).toInt < 0) ∨ (0 ≤ ((own_bnd (p2 &&& (7 : Int32))) + ((p1 &&& (7 : Int32)) - (3 : Int32))).toInt ∧ ((own_bnd (p2 &&& (7 : Int32))) + ((p1 &&& (7 : Int32)) - (3 : Int32))).toInt < 128) ∨ (128 ≤ ((own_bnd (p2 &&& (7 : Int32))) + ((p1 &&& (7 : Int32)) - (3 : Int32))).toInt)) with hq | hq | hq
      · have hc_lt_0 := own_z (c := ((own_bnd (p2 &&& (7 : Int32))) + ((p1 &&& (7 : Int32)) - (3 : Int32)))) (by omega)
        exact law_k0_0_0 l Z a0 hw ws h0 n0 s_IA5 s_BMP s_UTF8 K p0 p1 p2 ha hb1 hc_lt_0
      · have hc_lt_0 := own_zF (c := ((own_bnd (p2 &&& (7 : Int32))) + ((p1 &&& (7 : Int32)) - (3 : Int32)))) (by omega)
        have hc_gt_127 := own_gF (c := ((own_bnd (p2 &&& (7 : Int32))) + ((p1 &&& (7 : Int32)) - (3 : Int32)))) (n := 127) (by omega)
        have hc_lt_55296 := own_l (c := ((own_bnd (p2 &&& (7 : Int32))) + ((p1 &&& (7 : Int32)) - (3 : Int32)))) (n := 55296) (by omega)
        exact law_k0_0_1 l Z a0 hw ws h0 n0 s_IA5 s_BMP s_UTF8 K p0 p1 p2 ha hb1 hc_lt_0 hc_gt_127 hc_lt_55296
      · have hc_lt_0 := own_zF (c := ((own_bnd (p2 &&& (7 : Int32))) + ((p1 &&& (7 : Int32)) - (3 : Int32)))) (by omega)
        have hc_gt_127 := own_g (c := ((own_bnd (p2 &&& (7 : Int32))) + ((p1 &&& (7 : Int32)) - (3 : Int32)))) (n := 127) (by omega)
        exact law_k0_0_2 l Z a0 hw ws h0 n0 s_IA5 s_BMP s_UTF8 K p0 p1 p2 ha hb1 hc_lt_0 hc_gt_127
    · rcases (by omega : (p1.toInt < 0) ∨ (0 ≤ p1.toInt ∧ p1.toInt < 128) ∨ (128 ≤ p1.toInt)) with hq | hq | hq
      · have hc_lt_0 := own_z (c := p1) (by omega)
        exact law_k0_8_0 l Z a0 hw ws h0 n0 s_IA5 s_BMP s_UTF8 K p0 p1 p2 ha hb1 hc_lt_0
      · have hc_lt_0 := own_zF (c := p1) (by omega)
        have hc_gt_127 := own_gF (c := p1) (n := 127) (by omega)
        have hc_lt_55296 := own_l (c := p1) (n := 55296) (by omega)
        exact law_k0_8_1 l Z a0 hw ws h0 n0 s_IA5 s_BMP s_UTF8 K p0 p1 p2 ha hb1 hc_lt_0 hc_gt_127 hc_lt_55296
      · have hc_lt_0 := own_zF (c := p1) (by omega)
        have hc_gt_127 := own_g (c := p1) (n := 127) (by omega)
        exact law_k0_8_2 l Z a0 hw ws h0 n0 s_IA5 s_BMP s_UTF8 K p0 p1 p2 ha hb1 hc_lt_0 hc_gt_127
  · rcases own_eight p2 with hb1 | hb1
    · rcases (by omega : (((own_bnd (p2 &&& (7 : Int32))) + ((p1 &&& (7 : Int32)) - (3 : Int32))).toInt < 0) ∨ (0 ≤ ((own_bnd (p2 &&& (7 : Int32))) + ((p1 &&& (7 : Int32)) - (3 : Int32))).toInt ∧ ((own_bnd (p2 &&& (7 : Int32))) + ((p1 &&& (7 : Int32)) - (3 : Int32))).toInt < 55296) ∨ (55296 ≤ ((own_bnd (p2 &&& (7 : Int32))) + ((p1 &&& (7 : Int32)) - (3 : Int32))).toInt ∧ ((own_bnd (p2 &&& (7 : Int32))) + ((p1 &&& (7 : Int32)) - (3 : Int32))).toInt < 57344) ∨ (57344 ≤ ((own_bnd (p2 &&& (7 : Int32))) + ((p1 &&& (7 : Int32)) - (3 : Int32))).toInt ∧ ((own_bnd (p2 &&& (7 : Int32))) + ((p1 &&& (7 : Int32)) - (3 : Int32))).toInt < 65536) ∨ (65536 ≤ ((own_bnd (p2 &&& (7 : Int32))) + ((p1 &&& (7 : Int32)) - (3 : Int32))).toInt)) with hq | hq | hq | hq | hq
      · have hc_lt_0 := own_z (c := ((own_bnd (p2 &&& (7 : Int32))) + ((p1 &&& (7 : Int32)) - (3 : Int32)))) (by omega)
        have hc_lt_57344 := own_l (c := ((own_bnd (p2 &&& (7 : Int32))) + ((p1 &&& (7 : Int32)) - (3 : Int32)))) (n := 57344) (by omega)
        exact law_k1_0_0 l Z a0 hw ws h0 n0 s_IA5 s_BMP s_UTF8 K p0 p1 p2 ha hb1 hc_lt_0 hc_lt_57344
      · have hc_lt_0 := own_zF (c := ((own_bnd (p2 &&& (7 : Int32))) + ((p1 &&& (7 : Int32)) - (3 : Int32)))) (by omega)
        have hc_lt_55296 := own_l (c := ((own_bnd (p2 &&& (7 : Int32))) + ((p1 &&& (7 : Int32)) - (3 : Int32)))) (n := 55296) (by omega)
        have hc_gt_65535 := own_gF (c := ((own_bnd (p2 &&& (7 : Int32))) + ((p1 &&& (7 : Int32)) - (3 : Int32)))) (n := 65535) (by omega)
        exact law_k1_0_1 l Z a0 hw ws h0 n0 s_IA5 s_BMP s_UTF8 K p0 p1 p2 ha hb1 hc_lt_0 hc_lt_55296 hc_gt_65535
      · have hc_lt_0 := own_zF (c := ((own_bnd (p2 &&& (7 : Int32))) + ((p1 &&& (7 : Int32)) - (3 : Int32)))) (by omega)
        have hc_lt_55296 := own_lF (c := ((own_bnd (p2 &&& (7 : Int32))) + ((p1 &&& (7 : Int32)) - (3 : Int32)))) (n := 55296) (by omega)
        have hc_lt_57344 := own_l (c := ((own_bnd (p2 &&& (7 : Int32))) + ((p1 &&& (7 : Int32)) - (3 : Int32)))) (n := 57344) (by omega)
        have hc_gt_65535 := own_gF (c := ((own_bnd (p2 &&& (7 : Int32))) + ((p1 &&& (7 : Int32)) - (3 : Int32)))) (n := 65535) (by omega)
        have hc_le_57343 := own_e (c := ((own_bnd (p2 &&& (7 : Int32))) + ((p1 &&& (7 : Int32)) - (3 : Int32)))) (n := 57343) (by omega)
        exact law_k1_0_2 l Z a0 hw ws h0 n0 s_IA5 s_BMP s_UTF8 K p0 p1 p2 ha hb1 hc_lt_0 hc_lt_55296 hc_lt_57344 hc_gt_65535 hc_le_57343
      · have hc_lt_0 := own_zF (c := ((own_bnd (p2 &&& (7 : Int32))) + ((p1 &&& (7 : Int32)) - (3 : Int32)))) (by omega)
        have hc_lt_55296 := own_lF (c := ((own_bnd (p2 &&& (7 : Int32))) + ((p1 &&& (7 : Int32)) - (3 : Int32)))) (n := 55296) (by omega)
        have hc_lt_57344 := own_lF (c := ((own_bnd (p2 &&& (7 : Int32))) + ((p1 &&& (7 : Int32)) - (3 : Int32)))) (n := 57344) (by omega)
        have hc_gt_65535 := own_gF (c := ((own_bnd (p2 &&& (7 : Int32))) + ((p1 &&& (7 : Int32)) - (3 : Int32)))) (n := 65535) (by omega)
        have hc_le_57343 := own_eF (c := ((own_bnd (p2 &&& (7 : Int32))) + ((p1 &&& (7 : Int32)) - (3 : Int32)))) (n := 57343) (by omega)
        exact law_k1_0_3 l Z a0 hw ws h0 n0 s_IA5 s_BMP s_UTF8 K p0 p1 p2 ha hb1 hc_lt_0 hc_lt_55296 hc_lt_57344 hc_gt_65535 hc_le_57343
      · have hc_lt_0 := own_zF (c := ((own_bnd (p2 &&& (7 : Int32))) + ((p1 &&& (7 : Int32)) - (3 : Int32)))) (by omega)
        have hc_lt_55296 := own_lF (c := ((own_bnd (p2 &&& (7 : Int32))) + ((p1 &&& (7 : Int32)) - (3 : Int32)))) (n := 55296) (by omega)
        have hc_lt_57344 := own_lF (c := ((own_bnd (p2 &&& (7 : Int32))) + ((p1 &&& (7 : Int32)) - (3 : Int32)))) (n := 57344) (by omega)
        have hc_gt_65535 := own_g (c := ((own_bnd (p2 &&& (7 : Int32))) + ((p1 &&& (7 : Int32)) - (3 : Int32)))) (n := 65535) (by omega)
        exact law_k1_0_4 l Z a0 hw ws h0 n0 s_IA5 s_BMP s_UTF8 K p0 p1 p2 ha hb1 hc_lt_0 hc_lt_55296 hc_lt_57344 hc_gt_65535
    · rcases (by omega : (p1.toInt < 0) ∨ (0 ≤ p1.toInt ∧ p1.toInt < 55296) ∨ (55296 ≤ p1.toInt ∧ p1.toInt < 57344) ∨ (57344 ≤ p1.toInt ∧ p1.toInt < 65536) ∨ (65536 ≤ p1.toInt)) with hq | hq | hq | hq | hq
      · have hc_lt_0 := own_z (c := p1) (by omega)
        have hc_lt_57344 := own_l (c := p1) (n := 57344) (by omega)
        exact law_k1_8_0 l Z a0 hw ws h0 n0 s_IA5 s_BMP s_UTF8 K p0 p1 p2 ha hb1 hc_lt_0 hc_lt_57344
      · have hc_lt_0 := own_zF (c := p1) (by omega)
        have hc_lt_55296 := own_l (c := p1) (n := 55296) (by omega)
        have hc_gt_65535 := own_gF (c := p1) (n := 65535) (by omega)
        exact law_k1_8_1 l Z a0 hw ws h0 n0 s_IA5 s_BMP s_UTF8 K p0 p1 p2 ha hb1 hc_lt_0 hc_lt_55296 hc_gt_65535
      · have hc_lt_0 := own_zF (c := p1) (by omega)
        have hc_lt_55296 := own_lF (c := p1) (n := 55296) (by omega)
        have hc_lt_57344 := own_l (c := p1) (n := 57344) (by omega)
        have hc_gt_65535 := own_gF (c := p1) (n := 65535) (by omega)
        have hc_le_57343 := own_e (c := p1) (n := 57343) (by omega)
        exact law_k1_8_2 l Z a0 hw ws h0 n0 s_IA5 s_BMP s_UTF8 K p0 p1 p2 ha hb1 hc_lt_0 hc_lt_55296 hc_lt_57344 hc_gt_65535 hc_le_57343
      · have hc_lt_0 := own_zF (c := p1) (by omega)
        have hc_lt_55296 := own_lF (c := p1) (n := 55296) (by omega)
        have hc_lt_57344 := own_lF (c := p1) (n := 57344) (by omega)
        have hc_gt_65535 := own_gF (c := p1) (n := 65535) (by omega)
        have hc_le_57343 := own_eF (c := p1) (n := 57343) (by omega)
        exact law_k1_8_3 l Z a0 hw ws h0 n0 s_IA5 s_BMP s_UTF8 K p0 p1 p2 ha hb1 hc_lt_0 hc_lt_55296 hc_lt_57344 hc_gt_65535 hc_le_57343
      · have hc_lt_0 := own_zF (c := p1) (by omega)
        have hc_lt_55296 := own_lF (c := p1) (n := 55296) (by omega)
        have hc_lt_57344 := own_lF (c := p1) (n := 57344) (by omega)
        have hc_gt_65535 := own_g (c := p1) (n := 65535) (by omega)
        exact law_k1_8_4 l Z a0 hw ws h0 n0 s_IA5 s_BMP s_UTF8 K p0 p1 p2 ha hb1 hc_lt_0 hc_lt_55296 hc_lt_57344 hc_gt_65535
  · rcases own_eight p2 with hb1 | hb1
    · rcases (by omega : (((own_bnd (p2 &&& (7 : Int32))) + ((p1 &&& (7 : Int32)) - (3 : Int32))).toInt < 0) ∨ (0 ≤ ((own_bnd (p2 &&& (7 : Int32))) + ((p1 &&& (7 : Int32)) - (3 : Int32))).toInt ∧ ((own_bnd (p2 &&& (7 : Int32))) + ((p1 &&& (7 : Int32)) - (3 : Int32))).toInt < 55296) ∨ (55296 ≤ ((own_bnd (p2 &&& (7 : Int32))) + ((p1 &&& (7 : Int32)) - (3 : Int32))).toInt ∧ ((own_bnd (p2 &&& (7 : Int32))) + ((p1 &&& (7 : Int32)) - (3 : Int32))).toInt < 57344) ∨ (57344 ≤ ((own_bnd (p2 &&& (7 : Int32))) + ((p1 &&& (7 : Int32)) - (3 : Int32))).toInt ∧ ((own_bnd (p2 &&& (7 : Int32))) + ((p1 &&& (7 : Int32)) - (3 : Int32))).toInt < 1114112) ∨ (1114112 ≤ ((own_bnd (p2 &&& (7 : Int32))) + ((p1 &&& (7 : Int32)) - (3 : Int32))).toInt)) with hq | hq | hq | hq | hq
      · have hc_lt_0 := own_z (c := ((own_bnd (p2 &&& (7 : Int32))) + ((p1 &&& (7 : Int32)) - (3 : Int32)))) (by omega)
        have hc_lt_57344 := own_l (c := ((own_bnd (p2 &&& (7 : Int32))) + ((p1 &&& (7 : Int32)) - (3 : Int32)))) (n := 57344) (by omega)
        exact law_k2_0_0 l Z a0 hw ws h0 n0 s_IA5 s_BMP s_UTF8 K p0 p1 p2 ha hb1 hc_lt_0 hc_lt_57344
      · have hc_lt_0 := own_zF (c := ((own_bnd (p2 &&& (7 : Int32))) + ((p1 &&& (7 : Int32)) - (3 : Int32)))) (by omega)
        have hc_lt_55296 := own_l (c := ((own_bnd (p2 &&& (7 : Int32))) + ((p1 &&& (7 : Int32)) - (3 : Int32)))) (n := 55296) (by omega)
        have hc_gt_1114111 := own_gF (c := ((own_bnd (p2 &&& (7 : Int32))) + ((p1 &&& (7 : Int32)) - (3 : Int32)))) (n := 1114111) (by omega)
        exact law_k2_0_1 l Z a0 hw ws h0 n0 s_IA5 s_BMP s_UTF8 K p0 p1 p2 ha hb1 hc_lt_0 hc_lt_55296 hc_gt_1114111
      · have hc_lt_0 := own_zF (c := ((own_bnd (p2 &&& (7 : Int32))) + ((p1 &&& (7 : Int32)) - (3 : Int32)))) (by omega)
        have hc_lt_55296 := own_lF (c := ((own_bnd (p2 &&& (7 : Int32))) + ((p1 &&& (7 : Int32)) - (3 : Int32)))) (n := 55296) (by omega)
        have hc_lt_57344 := own_l (c := ((own_bnd (p2 &&& (7 : Int32))) + ((p1 &&& (7 : Int32)) - (3 : Int32)))) (n := 57344) (by omega)
        have hc_gt_1114111 := own_gF (c := ((own_bnd (p2 &&& (7 : Int32))) + ((p1 &&& (7 : Int32)) - (3 : Int32)))) (n := 1114111) (by omega)
        have hc_le_57343 := own_e (c := ((own_bnd (p2 &&& (7 : Int32))) + ((p1 &&& (7 : Int32)) - (3 : Int32)))) (n := 57343) (by omega)
        exact law_k2_0_2 l Z a0 hw ws h0 n0 s_IA5 s_BMP s_UTF8 K p0 p1 p2 ha hb1 hc_lt_0 hc_lt_55296 hc_lt_57344 hc_gt_1114111 hc_le_57343
      · have hc_lt_0 := own_zF (c := ((own_bnd (p2 &&& (7 : Int32))) + ((p1 &&& (7 : Int32)) - (3 : Int32)))) (by omega)
        have hc_lt_55296 := own_lF (c := ((own_bnd (p2 &&& (7 : Int32))) + ((p1 &&& (7 : Int32)) - (3 : Int32)))) (n := 55296) (by omega)
        have hc_lt_57344 := own_lF (c := ((own_bnd (p2 &&& (7 : Int32))) + ((p1 &&& (7 : Int32)) - (3 : Int32)))) (n := 57344) (by omega)
        have hc_gt_1114111 := own_gF (c := ((own_bnd (p2 &&& (7 : Int32))) + ((p1 &&& (7 : Int32)) - (3 : Int32)))) (n := 1114111) (by omega)
        have hc_le_57343 := own_eF (c := ((own_bnd (p2 &&& (7 : Int32))) + ((p1 &&& (7 : Int32)) - (3 : Int32)))) (n := 57343) (by omega)
        exact law_k2_0_3 l Z a0 hw ws h0 n0 s_IA5 s_BMP s_UTF8 K p0 p1 p2 ha hb1 hc_lt_0 hc_lt_55296 hc_lt_57344 hc_gt_1114111 hc_le_57343
      · have hc_lt_0 := own_zF (c := ((own_bnd (p2 &&& (7 : Int32))) + ((p1 &&& (7 : Int32)) - (3 : Int32)))) (by omega)
        have hc_lt_55296 := own_lF (c := ((own_bnd (p2 &&& (7 : Int32))) + ((p1 &&& (7 : Int32)) - (3 : Int32)))) (n := 55296) (by omega)
        have hc_lt_57344 := own_lF (c := ((own_bnd (p2 &&& (7 : Int32))) + ((p1 &&& (7 : Int32)) - (3 : Int32)))) (n := 57344) (by omega)
        have hc_gt_1114111 := own_g (c := ((own_bnd (p2 &&& (7 : Int32))) + ((p1 &&& (7 : Int32)) - (3 : Int32)))) (n := 1114111) (by omega)
        exact law_k2_0_4 l Z a0 hw ws h0 n0 s_IA5 s_BMP s_UTF8 K p0 p1 p2 ha hb1 hc_lt_0 hc_lt_55296 hc_lt_57344 hc_gt_1114111
    · rcases (by omega : (p1.toInt < 0) ∨ (0 ≤ p1.toInt ∧ p1.toInt < 55296) ∨ (55296 ≤ p1.toInt ∧ p1.toInt < 57344) ∨ (57344 ≤ p1.toInt ∧ p1.toInt < 1114112) ∨ (1114112 ≤ p1.toInt)) with hq | hq | hq | hq | hq
      · have hc_lt_0 := own_z (c := p1) (by omega)
        have hc_lt_57344 := own_l (c := p1) (n := 57344) (by omega)
        exact law_k2_8_0 l Z a0 hw ws h0 n0 s_IA5 s_BMP s_UTF8 K p0 p1 p2 ha hb1 hc_lt_0 hc_lt_57344
      · have hc_lt_0 := own_zF (c := p1) (by omega)
        have hc_lt_55296 := own_l (c := p1) (n := 55296) (by omega)
        have hc_gt_1114111 := own_gF (c := p1) (n := 1114111) (by omega)
        exact law_k2_8_1 l Z a0 hw ws h0 n0 s_IA5 s_BMP s_UTF8 K p0 p1 p2 ha hb1 hc_lt_0 hc_lt_55296 hc_gt_1114111
      · have hc_lt_0 := own_zF (c := p1) (by omega)
        have hc_lt_55296 := own_lF (c := p1) (n := 55296) (by omega)
        have hc_lt_57344 := own_l (c := p1) (n := 57344) (by omega)
        have hc_gt_1114111 := own_gF (c := p1) (n := 1114111) (by omega)
        have hc_le_57343 := own_e (c := p1) (n := 57343) (by omega)
        exact law_k2_8_2 l Z a0 hw ws h0 n0 s_IA5 s_BMP s_UTF8 K p0 p1 p2 ha hb1 hc_lt_0 hc_lt_55296 hc_lt_57344 hc_gt_1114111 hc_le_57343
      · have hc_lt_0 := own_zF (c := p1) (by omega)
        have hc_lt_55296 := own_lF (c := p1) (n := 55296) (by omega)
        have hc_lt_57344 := own_lF (c := p1) (n := 57344) (by omega)
        have hc_gt_1114111 := own_gF (c := p1) (n := 1114111) (by omega)
        have hc_le_57343 := own_eF (c := p1) (n := 57343) (by omega)
        exact law_k2_8_3 l Z a0 hw ws h0 n0 s_IA5 s_BMP s_UTF8 K p0 p1 p2 ha hb1 hc_lt_0 hc_lt_55296 hc_lt_57344 hc_gt_1114111 hc_le_57343
      · have hc_lt_0 := own_zF (c := p1) (by omega)
        have hc_lt_55296 := own_lF (c := p1) (n := 55296) (by omega)
        have hc_lt_57344 := own_lF (c := p1) (n := 57344) (by omega)
        have hc_gt_1114111 := own_g (c := p1) (n := 1114111) (by omega)
        exact law_k2_8_4 l Z a0 hw ws h0 n0 s_IA5 s_BMP s_UTF8 K p0 p1 p2 ha hb1 hc_lt_0 hc_lt_55296 hc_lt_57344 hc_gt_1114111

set_option maxRecDepth 65536 in
set_option maxHeartbeats 40000000 in
theorem comes_1 {Post : Tables → Env → Array Value → State → Outcome → State → Prop} (hpost : ∀ tb e args s v u, (limb_1_1.after args s (.returned v) u = true ∧ limb_1_2.after args s (.returned v) u = true ∧ True) → FrameEnd s (.returned v) u (Jvm.fieldLocs frame_1_writes args s ++ Jvm.arrayLocs frame_1_arrays args s ++ Jvm.staticLocs frame_1_statics s) 0 0 → Post tb e args s (.returned v) u) :
    ArmFor flags0 classFile x code maxLocals ret World_1 tables_1 room_1 Calls_1 rest_1 Pre_1 Post := by
  intro l hfl _ _ p e ha hc hk s m args below hf hA hF happ hP
  obtain ⟨hcalls, hrest, hpre⟩ := hP
  obtain ⟨-, -, -, hnamed, -, -, -, hat⟩ := (Spec.applies_iff hf).mp happ
  obtain ⟨hg, hn⟩ := and_e (Cond.before_iff.mp (show (Jvm.Cond.and given_1 narrow_1).before args s = true from hpre))
  obtain ⟨g0, gr0⟩ := and_e hg
  obtain ⟨ga0, gr1⟩ := and_e gr0
  obtain ⟨ga1, gr2⟩ := and_e gr1
  have ga2 := gr2
  obtain ⟨w0, w1, w2, rfl⟩ : ∃ w0 w1 w2 : Value, args = #[w0, w1, w2] := by
    have hs : args.size = 3 := by simpa [Cond.value, given_1] using g0
    obtain ⟨L⟩ := args
    match L, hs with
    | [w0, w1, w2], _ => exact ⟨w0, w1, w2, rfl⟩
  have hw := fun d (hd : d ∈ tables_1) => atoms_spec (ws := Jvm.Cond.code x code maxLocals ret :: tables_1) hat d (List.mem_cons_of_mem _ hd)
  obtain ⟨p0, ei0⟩ := is_v ga0
  obtain rfl : w0 = (.int p0) := Option.some.inj ei0
  obtain ⟨p1, ei1⟩ := is_v ga1
  obtain rfl : w1 = (.int p1) := Option.some.inj ei1
  obtain ⟨p2, ei2⟩ := is_v ga2
  obtain rfl : w2 = (.int p2) := Option.some.inj ei2
  obtain ⟨hnl, hnr⟩ := and_e hn
  have n0 := hnl
  obtain ⟨hnrl, hnrr⟩ := and_e hnr
  have n1 := hnrl
  obtain ⟨hnrrl, hnrrr⟩ := and_e hnrr
  have n2 := hnrrl
  obtain ⟨hnrrrl, hnrrrr⟩ := and_e hnrrr
  have n3 := hnrrrl
  obtain ⟨hnrrrrl, hnrrrrr⟩ := and_e hnrrrr
  have n4 := hnrrrrl
  have n5 := hnrrrrr
  obtain ⟨s_IA5, ev_IA5⟩ := exa_v n0
  have E_IA5 := Exa.start ev_IA5 n0
  have S_IA5 := Sta.start ev_IA5 (Or.inr ⟨(hw _ (List.mem_of_getElem? (i := 2) rfl)), (hw _ (List.mem_of_getElem? (i := 3) rfl))⟩)
  obtain ⟨s_BMP, ev_BMP⟩ := exa_v n2
  have E_BMP := Exa.start ev_BMP n2
  have S_BMP := Sta.start ev_BMP (Or.inr ⟨(hw _ (List.mem_of_getElem? (i := 2) rfl)), (hw _ (List.mem_of_getElem? (i := 17) rfl))⟩)
  obtain ⟨s_UTF8, ev_UTF8⟩ := exa_v n4
  have E_UTF8 := Exa.start ev_UTF8 n4
  have S_UTF8 := Sta.start ev_UTF8 (Or.inr ⟨(hw _ (List.mem_of_getElem? (i := 2) rfl)), (hw _ (List.mem_of_getElem? (i := 24) rfl))⟩)
  have o_IA5_lastCodePoint := (fld_at ev_IA5).symm.trans (own_eqI n1)
  have F_IA5_lastCodePoint := Fld.start o_IA5_lastCodePoint
  have o_BMP_lastCodePoint := (fld_at ev_BMP).symm.trans (own_eqI n3)
  have F_BMP_lastCodePoint := Fld.start o_BMP_lastCodePoint
  have o_UTF8_lastCodePoint := (fld_at ev_UTF8).symm.trans (own_eqI n5)
  have F_UTF8_lastCodePoint := Fld.start o_UTF8_lastCodePoint
  obtain ⟨n, o, h1, h2, h3, _, L, rfl, ⟨rfl, N, _⟩, hq⟩ := rm0 l s _ hw tables_1 s.heap s.heap.size s_IA5 s_BMP s_UTF8 ⟨S_IA5, E_IA5, F_IA5_lastCodePoint, S_BMP, E_BMP, F_BMP_lastCodePoint, S_UTF8, E_UTF8, F_UTF8_lastCodePoint⟩ p0 p1 p2 p e ha hc hk s m _ below hf ((Spec.applies_iff_loose hf).mp happ).1 ⟨rfl, State.Warmed39.refl s, rfl⟩ trivial
  refine ⟨n, _, h1, h2, h3, hpost _ _ _ _ _ _ ⟨Cond.after_iff.mpr rfl, Cond.after_iff.mpr (eq_i res_at (Term.int_eval (1)) rfl), trivial⟩ ⟨hq.1, hq.2.1, (hq.2.2.sift fun y hy => Or.inr (N y hy)).mono (by decide) (by decide)⟩⟩
theorem main_1_1 : Claimed_1_1 := comes_1 fun _ _ _ _ _ _ h hF => ⟨h.1, hF⟩
theorem main_1_2 : Claimed_1_2 := comes_1 fun _ _ _ _ _ _ h hF => ⟨h.2.1, hF⟩
end Jvm.Pilot.@@N@@
namespace Jvm.Pilot.@@N@@
open Jvm Jvm.ClassFile Sem Op Lib Jvm.Free Jvm.Stand Jvm.Pilot.@@N@@.Jvm.D
/-! MADE BY PROGRAM (witnessworld.py) out of the Statement's table words and the real class files: 12 classes; the members and pool entries that the words name. The judged class is class 1, her method 2. -/
namespace start1
open Jvm.ClassFile
def u (s : String) : CpInfo := .utf8 (stringToUtf16 s)
/-- a pool by its gaps: so many unusable entries, then the entry; so many at the end -/
def gap : Nat → List CpInfo → List CpInfo
  | 0, r => r
  | n + 1, r => .unusable :: gap n r
def poolList (es : List (Nat × CpInfo)) (last : Nat) : List CpInfo := es.foldr (fun e r => gap e.1 (e.2 :: r)) (gap last [])
def pool (es : List (Nat × CpInfo)) (last : Nat) : Array CpInfo := ⟨poolList es last⟩
def fileOf (pool : Array CpInfo) (this : Nat) (attrs : Array Attribute := #[]) (ms : Array MethodInfo := #[]) (fl : Nat := 33) (sup : Nat := 0) (ifs : Array Nat := #[]) (fds : Array FieldInfo := #[]) : ClassFile where
  minorVersion := 0
  majorVersion := 65
  constantPool := pool
  accessFlags := fl
  thisClass := this
  superClass := sup
  interfaces := ifs
  fields := fds
  methods := ms
  attributes := attrs
def plain (name : String) (sup : Option ClassId) : Class where
  name := name
  kind := .ordinary
  loader := none
  accessFlags := 33
  super := sup
  interfaces := #[]
  cf := none
  fields := #[]
  methods := #[]
  instanceTypes := #[]
  staticTypes := #[]
  resolved := #[]
  callSites := []
  init := .initialized
  statics := none
  mirror := none

def pool0 : Array CpInfo := pool [(5, u "<init>"), (0, u "()V"), (1, .class_ 10), (1, u "java/lang/Object")] 113

def k0m0 : Method := { name := "<init>", desc := "()V", sig := { parameters := [], returnType := none }, accessFlags := 1, code := none }
/-- java/lang/Object -/
def k0 : Class := { plain "java/lang/Object" none with
  accessFlags := 33
  interfaces := #[]
  cf := some (fileOf pool0 8 #[] #[{ accessFlags := 1, nameIndex := 5, descriptorIndex := 6, attributes := #[] }] 33 0 #[] #[])
  fields := #[]
  methods := #[k0m0]
  instanceTypes := #[]
  staticTypes := #[]
  resolved := Array.replicate 124 none
  statics := none }

def pool1 : Array CpInfo := pool [(2, .class_ 4), (1, u "java/lang/Object"), (0, u "<init>"), (0, u "()V"), (0, .integer 55296), (0, .integer 57343), (0, .integer 65535), (0, .integer 1114111), (0, .integer 57344), (2, .integer 2147483648), (0, .integer 2147483647), (0, .fieldref 17 18), (0, .class_ 19), (0, .nameAndType 20 21), (0, u "com/example/plainwire/plainwire/definitions/Repertoire"), (0, u "IA5"), (0, u "Lcom/example/plainwire/plainwire/definitions/Repertoire;"), (0, .fieldref 17 23), (0, .nameAndType 24 21), (0, u "BMP"), (0, .fieldref 17 26), (0, .nameAndType 27 21), (0, u "UTF8"), (0, .methodref 29 30), (0, .class_ 31), (0, .nameAndType 32 33), (0, u "com/example/plainwire/plainwire/definitions/RepertoireHoldsPinLaw"), (0, u "boundary"), (0, u "(I)I"), (0, .methodref 17 35), (0, .nameAndType 36 37), (0, u "holds"), (0, u "(I)Z"), (3, u "law"), (0, u "(III)Z")] 2

def k1m0 : Method := { name := "<init>", desc := "()V", sig := { parameters := [], returnType := none }, accessFlags := 1, code := none }
def k1c1 : Code := { maxStack := 2, maxLocals := 1, code := method_2_code, exceptionTable := #[], attributes := #[] }
def k1m1 : Method := { name := "boundary", desc := "(I)I", sig := { parameters := [.int], returnType := some .int }, accessFlags := 10, code := some k1c1 }
def k1c2 : Code := { maxStack := 3, maxLocals := 7, code := code, exceptionTable := #[], attributes := #[] }
def k1m2 : Method := { name := "law", desc := "(III)Z", sig := { parameters := [.int, .int, .int], returnType := some .boolean }, accessFlags := 9, code := some k1c2 }
/-- com/example/plainwire/plainwire/definitions/RepertoireHoldsPinLaw -/
def k1 : Class := { plain "com/example/plainwire/plainwire/definitions/RepertoireHoldsPinLaw" (some 0) with
  accessFlags := 49
  interfaces := #[]
  cf := some (fileOf pool1 29 #[] #[{ accessFlags := 1, nameIndex := 5, descriptorIndex := 6, attributes := #[] }, { accessFlags := 10, nameIndex := 32, descriptorIndex := 33, attributes := #[] }, { accessFlags := 9, nameIndex := 41, descriptorIndex := 42, attributes := #[] }] 49 2 #[] #[])
  fields := #[]
  methods := #[k1m0, k1m1, k1m2]
  instanceTypes := #[]
  staticTypes := #[]
  resolved := Array.replicate 45 none
  statics := none }

def pool2 : Array CpInfo := pool [(1, .class_ 2), (0, u "java/lang/constant/Constable"), (0, .class_ 4), (0, u "java/lang/Object")] 6

/-- java/lang/constant/Constable -/
def k2 : Class := { plain "java/lang/constant/Constable" (some 0) with
  accessFlags := 1537
  interfaces := #[]
  cf := some (fileOf pool2 1 #[] #[] 1537 3 #[] #[])
  fields := #[]
  methods := #[]
  instanceTypes := #[]
  staticTypes := #[]
  resolved := Array.replicate 11 none
  statics := none }

def pool3 : Array CpInfo := pool [(1, .class_ 2), (0, u "java/lang/Comparable"), (0, .class_ 4), (0, u "java/lang/Object")] 7

/-- java/lang/Comparable -/
def k3 : Class := { plain "java/lang/Comparable" (some 0) with
  accessFlags := 1537
  interfaces := #[]
  cf := some (fileOf pool3 1 #[] #[] 1537 3 #[] #[])
  fields := #[]
  methods := #[]
  instanceTypes := #[]
  staticTypes := #[]
  resolved := Array.replicate 12 none
  statics := none }

def pool4 : Array CpInfo := pool [(1, .class_ 2), (0, u "java/io/Serializable"), (0, .class_ 4), (0, u "java/lang/Object")] 2

/-- java/io/Serializable -/
def k4 : Class := { plain "java/io/Serializable" (some 0) with
  accessFlags := 1537
  interfaces := #[]
  cf := some (fileOf pool4 1 #[] #[] 1537 3 #[] #[])
  fields := #[]
  methods := #[]
  instanceTypes := #[]
  staticTypes := #[]
  resolved := Array.replicate 7 none
  statics := none }

def pool5 : Array CpInfo := pool [(2, .class_ 4), (1, u "java/lang/Enum"), (0, u "name"), (0, u "Ljava/lang/String;"), (2, u "ordinal"), (0, u "I"), (1, .class_ 14), (1, u "java/lang/Object"), (4, u "hash"), (86, .class_ 108), (1, u "java/lang/Enum$EnumDesc"), (2, .class_ 112), (0, u "java/lang/constant/Constable"), (0, .class_ 114), (0, u "java/lang/Comparable"), (0, .class_ 116), (0, u "java/io/Serializable")] 87

/-- java/lang/Enum -/
def k5 : Class := { plain "java/lang/Enum" (some 0) with
  accessFlags := 1057
  interfaces := #[2, 3, 4]
  cf := some (fileOf pool5 2 #[.nestMembers #[106]] #[] 1057 12 #[111, 113, 115] #[{ accessFlags := 18, nameIndex := 5, descriptorIndex := 6, attributes := #[] }, { accessFlags := 18, nameIndex := 9, descriptorIndex := 10, attributes := #[] }, { accessFlags := 2, nameIndex := 19, descriptorIndex := 10, attributes := #[] }])
  fields := #[{ name := "name", type := (.object "java/lang/String"), accessFlags := 18, slot := 0, constantValue := 0 }, { name := "ordinal", type := .int, accessFlags := 18, slot := 1, constantValue := 0 }, { name := "hash", type := .int, accessFlags := 2, slot := 2, constantValue := 0 }]
  methods := #[]
  instanceTypes := #[(.object "java/lang/String"), .int, .int]
  staticTypes := #[]
  resolved := Array.replicate 204 none
  statics := none }

def pool6 : Array CpInfo := pool [(1, .class_ 2), (0, u "com/example/plainwire/plainwire/definitions/Repertoire"), (2, u "IA5"), (0, u "Lcom/example/plainwire/plainwire/definitions/Repertoire;"), (2, u "BMP"), (2, u "UTF8"), (2, u "$VALUES"), (0, u "[Lcom/example/plainwire/plainwire/definitions/Repertoire;"), (6, .class_ 25), (1, u "java/lang/Enum"), (8, u "typeName"), (0, u "Ljava/lang/String;"), (0, .fieldref 1 37), (0, .nameAndType 38 39), (0, u "lastCodePoint"), (0, u "I"), (2, .integer 55296), (0, .integer 57343), (25, u "holds"), (0, u "(I)Z")] 6

def k6c0 : Code := { maxStack := 2, maxLocals := 2, code := prog_37_method_5_code, exceptionTable := #[], attributes := #[] }
def k6m0 : Method := { name := "holds", desc := "(I)Z", sig := { parameters := [.int], returnType := some .boolean }, accessFlags := 1, code := some k6c0 }
/-- com/example/plainwire/plainwire/definitions/Repertoire -/
def k6 : Class := { plain "com/example/plainwire/plainwire/definitions/Repertoire" (some 5) with
  accessFlags := 16433
  interfaces := #[]
  cf := some (fileOf pool6 1 #[] #[{ accessFlags := 1, nameIndex := 69, descriptorIndex := 70, attributes := #[] }] 16433 23 #[] #[{ accessFlags := 16409, nameIndex := 5, descriptorIndex := 6, attributes := #[] }, { accessFlags := 16409, nameIndex := 9, descriptorIndex := 6, attributes := #[] }, { accessFlags := 16409, nameIndex := 12, descriptorIndex := 6, attributes := #[] }, { accessFlags := 18, nameIndex := 34, descriptorIndex := 35, attributes := #[] }, { accessFlags := 18, nameIndex := 38, descriptorIndex := 39, attributes := #[] }, { accessFlags := 4122, nameIndex := 15, descriptorIndex := 16, attributes := #[] }])
  fields := #[{ name := "IA5", type := (.object "com/example/plainwire/plainwire/definitions/Repertoire"), accessFlags := 16409, slot := 0, constantValue := 0 }, { name := "BMP", type := (.object "com/example/plainwire/plainwire/definitions/Repertoire"), accessFlags := 16409, slot := 1, constantValue := 0 }, { name := "UTF8", type := (.object "com/example/plainwire/plainwire/definitions/Repertoire"), accessFlags := 16409, slot := 2, constantValue := 0 }, { name := "typeName", type := (.object "java/lang/String"), accessFlags := 18, slot := 3, constantValue := 0 }, { name := "lastCodePoint", type := .int, accessFlags := 18, slot := 4, constantValue := 0 }, { name := "$VALUES", type := (.array (.object "com/example/plainwire/plainwire/definitions/Repertoire")), accessFlags := 4122, slot := 3, constantValue := 0 }]
  methods := #[k6m0]
  instanceTypes := #[(.object "java/lang/String"), .int, .int, (.object "java/lang/String"), .int]
  staticTypes := #[(.object "com/example/plainwire/plainwire/definitions/Repertoire"), (.object "com/example/plainwire/plainwire/definitions/Repertoire"), (.object "com/example/plainwire/plainwire/definitions/Repertoire"), (.array (.object "com/example/plainwire/plainwire/definitions/Repertoire"))]
  resolved := Array.replicate 77 none
  statics := some 0 }

def pool7 : Array CpInfo := pool [(1, u "java/lang/Cloneable"), (0, .class_ 1), (0, u "java/lang/Object"), (0, .class_ 3)] 3

/-- java/lang/Cloneable -/
def k7 : Class := { plain "java/lang/Cloneable" (some 0) with
  accessFlags := 1537
  interfaces := #[]
  cf := some (fileOf pool7 2 #[] #[] 1537 4 #[] #[])
  fields := #[]
  methods := #[]
  instanceTypes := #[]
  staticTypes := #[]
  resolved := Array.replicate 8 none
  statics := none }

/-- the primitive byte -/
def k8 : Class := { plain "byte" none with kind := .primitive 'B', accessFlags := 0x411 }
/-- [B -/
def k9 : Class := { plain "[B" (some 0) with kind := .array 8 .byte, interfaces := #[7, 4], accessFlags := 1041 }

/-- the primitive int -/
def k10 : Class := { plain "int" none with kind := .primitive 'I', accessFlags := 0x411 }
/-- [I -/
def k11 : Class := { plain "[I" (some 0) with kind := .array 10 .int, interfaces := #[7, 4], accessFlags := 1041 }

def heap : Heap := #[{ cls := 6, slots := #[.ref 1, .ref 2, .ref 3, .null], vm := .statics 6 },
  { cls := 6, slots := #[.null, .int 0, .int 0, .null, .int 127], vm := .none },
  { cls := 6, slots := #[.null, .int 0, .int 0, .null, .int 65535], vm := .none },
  { cls := 6, slots := #[.null, .int 0, .int 0, .null, .int 1114111], vm := .none }]
def classes : Array Class := #[k0, k1, k2, k3, k4, k5, k6, k7, k8, k9, k10, k11]
def interned : List (Array UInt16 × Addr) := []
def slotsUsed : Nat := 19
def theMethod : MethodId := ⟨1, 2⟩
def args0 : Array Value := #[.int 5, .int 3, .int 7]
def aboutOver (below : List Frame) : State where
  vm := { classes := classes, interned := interned.toArray }
  heap := heap
  slotsUsed := slotsUsed
  threads := #[{ frames := .invoking theMethod args0 :: below }]
def below0 : List Frame := [.native { method := ⟨0, 0⟩, args := #[] }]
def about1 : State := aboutOver below0
def p0 : Program := .bare "" "" ""
def e0 : Env := launch0.env 0 0 0
theorem w_frames : about1.frames = Frame.invoking theMethod args0 :: below0 := rfl
set_option maxRecDepth 65536 in
theorem w_args : argsFit about1.vm theMethod args0 = true := by decide +kernel
set_option maxRecDepth 65536 in
theorem w_heap : heapFits about1 = true := by decide +kernel
set_option maxRecDepth 65536 in
theorem w_runnable : about1.curStatus? = some .runnable := by decide +kernel
set_option maxRecDepth 65536 in
theorem w_alone : about1.alone = true := by decide +kernel
set_option maxRecDepth 65536 in
theorem w_named : about1.methodNamed? x = some theMethod := by decide +kernel
set_option maxRecDepth 65536 in
theorem w_hears : about1.hears theMethod below0 = true := by decide +kernel
set_option maxRecDepth 65536 in
theorem w_ripe : about1.ripe theMethod args0 below0 = true := by decide +kernel
theorem w_running : about1.status = .running := rfl
set_option maxRecDepth 65536 in
theorem w_room : about1.hasRoom e0.platform room_1 = true :=
  launch0.hasRoom_least _ room_1 (by decide +kernel) (by decide +kernel) (by decide +kernel) (by decide +kernel) (by decide +kernel) (by decide +kernel)
theorem allAtoms_all (ts : List Jvm.Cond) (a : Array Jvm.Value) (st : Jvm.State) : (allAtoms ts).before a st = ts.all (fun c => c.before a st) := by
  induction ts with
  | nil => rfl
  | cons c t ih =>
    show (Jvm.Cond.and c (allAtoms t)).before a st = _
    rw [Jvm.Cond.before_and, ih, List.all_cons]
def words1 : List Jvm.Cond := Jvm.Cond.code x code maxLocals ret :: tables_1
/-- a 'code' word, met by the world's own term for the bytes: nothing is compared byte by byte -/
theorem code_word {y : MethodName} {bytes : ByteArray} {mx : Nat} {rt : Option FieldType} {a : Array Value} {s : State} {m : MethodId} {meth : Method} {c : Code} (h1 : s.methodNamed? y = some m) (h2 : s.vm.method? m = some meth) (h3 : meth.code = some c) (h4 : c.code = bytes)
    (h5 : (c.maxLocals == mx && c.exceptionTable.isEmpty && decide (c.maxStack ≤ mostOperands) && decide (meth.sig.returnType = rt) && !meth.locks && decide (parseMethodDescriptor y.desc = some meth.sig)) = true) : (Jvm.Cond.code y bytes mx rt).before a s = true := by
  simp only [Bool.and_eq_true, beq_iff_eq, Bool.not_eq_true', decide_eq_true_eq] at h5
  obtain ⟨⟨⟨⟨⟨g1, g2⟩, g3⟩, g4⟩, g5⟩, g6⟩ := h5
  simp [Cond.before, Cond.holds, Cond.value, h1, h2, h3, h4, g1, g2, g3, g4, g5, g6]
def isCode : Jvm.Cond → Bool
  | .code _ _ _ _ => true
  | _ => false
theorem all_split {L : List Jvm.Cond} {P : Jvm.Cond → Bool} (h1 : L.all (fun c => isCode c || P c) = true) (h2 : ∀ c ∈ L.filter isCode, P c = true) : L.all P = true := by
  refine List.all_eq_true.mpr fun c hc => ?_
  have h := List.all_eq_true.mp h1 c hc
  rcases Bool.eq_false_or_eq_true (isCode c) with hi | hi
  · exact h2 c (List.mem_filter.mpr ⟨hc, hi⟩)
  · simpa [hi] using h
set_option maxRecDepth 65536 in
theorem w_c0 : (Jvm.Cond.code x code maxLocals ret).before args0 about1 = true := code_word (m := ⟨1, 2⟩) (meth := k1m2) (c := k1c2) (by decide +kernel) rfl rfl rfl (by decide +kernel)
set_option maxRecDepth 65536 in
theorem w_c1 : (Jvm.Cond.code ({ cls := "com/example/plainwire/plainwire/definitions/RepertoireHoldsPinLaw", name := "boundary", desc := "(I)I" } : Jvm.MethodName) method_2_code (1 : Nat) (Option.some Jvm.ClassFile.FieldType.int)).before args0 about1 = true := code_word (m := ⟨1, 1⟩) (meth := k1m1) (c := k1c1) (by decide +kernel) rfl rfl rfl (by decide +kernel)
set_option maxRecDepth 65536 in
theorem w_c2 : (Jvm.Cond.code ({ cls := "com/example/plainwire/plainwire/definitions/Repertoire", name := "holds", desc := "(I)Z" } : Jvm.MethodName) prog_37_method_5_code (2 : Nat) (Option.some Jvm.ClassFile.FieldType.boolean)).before args0 about1 = true := code_word (m := ⟨6, 0⟩) (meth := k6m0) (c := k6c0) (by decide +kernel) rfl rfl rfl (by decide +kernel)
def codes1 : List Jvm.Cond := [Jvm.Cond.code x code maxLocals ret, Jvm.Cond.code ({ cls := "com/example/plainwire/plainwire/definitions/RepertoireHoldsPinLaw", name := "boundary", desc := "(I)I" } : Jvm.MethodName) method_2_code (1 : Nat) (Option.some Jvm.ClassFile.FieldType.int), Jvm.Cond.code ({ cls := "com/example/plainwire/plainwire/definitions/Repertoire", name := "holds", desc := "(I)Z" } : Jvm.MethodName) prog_37_method_5_code (2 : Nat) (Option.some Jvm.ClassFile.FieldType.boolean)]
set_option maxRecDepth 65536 in
theorem codes_eq : words1.filter isCode = codes1 := rfl
theorem w_codes : ∀ c ∈ words1.filter isCode, c.before args0 about1 = true := by
  rw [codes_eq]
  intro c hc
  simp only [codes1, List.mem_cons, List.not_mem_nil, or_false] at hc
  rcases hc with rfl | rfl | rfl
  · exact w_c0
  · exact w_c1
  · exact w_c2
set_option maxRecDepth 65536 in
theorem w_t1 : (words1.take 24).all (fun c => isCode c || c.before args0 about1) = true := by decide +kernel
set_option maxRecDepth 65536 in
theorem w_t2 : (words1.drop 24).all (fun c => isCode c || c.before args0 about1) = true := by decide +kernel
theorem w_tables : (allAtoms (Jvm.Cond.code x code maxLocals ret :: tables_1)).before args0 about1 = true := by
  rw [allAtoms_all]
  show words1.all (fun c => c.before args0 about1) = true
  refine all_split ?_ w_codes
  rw [← List.take_append_drop 24 words1, List.all_append, w_t1, w_t2]
  rfl
set_option maxRecDepth 65536 in
theorem w_case : (Jvm.Cond.and given_1 narrow_1).before args0 about1 = true := by decide +kernel
theorem w_applies : (headSpec (Jvm.Cond.code x code maxLocals ret :: tables_1) room_1).applies x e0.platform about1 = true :=
  (Spec.applies_iff w_frames).mpr ⟨w_running, w_runnable, w_alone, w_named, w_hears, w_ripe, w_room, w_tables⟩
theorem atStart : AtStart classFile x code maxLocals ret World_1 tables_1 room_1 Calls_1 rest_1 Pre_1 launch0 p0 e0 about1 theMethod args0 below0 :=
  ⟨lists_1, trivial, launch0.admits_env _ _ _, launch0.least_env, fairChoices_fair.cas, fairChoices_fair.clock, w_frames, w_args, w_heap, w_applies, trivial, trivial, w_case⟩
end start1
theorem witness_1 : WitnessClaimed_1 := ⟨start1.p0, start1.e0, start1.about1, start1.theMethod, start1.args0, start1.below0, start1.atStart⟩
end Jvm.Pilot.@@N@@
