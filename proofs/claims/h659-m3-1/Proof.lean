import JvmDerived
import JvmDerived.Pilot.@@N@@Statement
import JvmDerived.Pilot.@@N@@Code
set_option linter.unusedVariables false
set_option linter.unusedSimpArgs false
@@BLOCK:NumsL.lean.txt@@
namespace Jvm.Pilot.@@N@@
open Jvm Jvm.ClassFile Sem Op Lib Jvm.Free Jvm.Stand Jvm.LawKit Jvm.RoadKit Bundle Jvm.Pilot.@@N@@.Jvm.D
/-- a term that the case says equals an int is worth that int -/
theorem own_eqI {args : Array Value} {s : State} {t : Term} {k : Int32} (h : (Jvm.Cond.eq t (.int k)).value args s none s [] = some true) : t.eval args s none [] s = some (.int k) := by
  obtain ⟨u, y, e1, e2, k1, k2⟩ := cmp_v (Or.inl h)
  obtain rfl : y = .int k := (Option.some.inj ((Term.int_eval k).symm.trans e2)).symm
  obtain ⟨z, rfl⟩ : ∃ z, u = .int z := k2
  have q : z = k := gotT (Cond.eq_ints e1 (Term.int_eval k)) h
  rw [e1, q]
/-- a term that the case says equals one that is worth an object is worth that object -/
theorem own_eqR {args : Array Value} {s : State} {t t' : Term} {b : Addr} (h : (Jvm.Cond.eq t t').value args s none s [] = some true) (hb : t'.eval args s none [] s = some (.ref b)) : t.eval args s none [] s = some (.ref b) := by
  obtain ⟨u, y, e1, e2, k1, k2⟩ := cmp_v (Or.inl h)
  obtain rfl : y = .ref b := (Option.some.inj (hb.symm.trans e2)).symm
  have q : u = .ref b := gotT (eq_R e1 hb k2.2 rfl) h
  rw [e1, q]
/-- two objects whose fields hold unlike values are unlike -/
theorem own_ne {s : State} {a b : Addr} {C n d : String} {v w : Value} (h1 : s.fieldOf? a C n d = some v) (h2 : s.fieldOf? b C n d = some w) (q : v ≠ w) : a ≠ b := fun e => by
  subst e; exact q (Option.some.inj (h1.symm.trans h2))
theorem own_pos (p : Int32) : 0 ≤ (p &&& (2147483647 : Int32)).toInt := by
  rw [Jvm.Kit.i32_mask p 2147483647 (k := 31) (by decide) (by decide)]; omega
theorem own_mod_lo (p n : Int32) (h : 0 < n.toInt) : 0 ≤ ((p &&& (2147483647 : Int32)) % n).toInt := by
  rw [Jvm.Kit.i32_rem_nonneg (own_pos p)]; exact Int.emod_nonneg _ (by omega)
theorem own_mod_hi (p n : Int32) (h : 0 < n.toInt) (k : Int) (hk : n.toInt = k) : ((p &&& (2147483647 : Int32)) % n).toInt < k := by
  rw [Jvm.Kit.i32_rem_nonneg (own_pos p), ← hk]; exact Int.emod_lt_of_pos _ h
theorem own_lt3 (z : Int32) (h1 : 0 ≤ z.toInt) (h2 : z.toInt < 3) : z = (0 : Int32) ∨ z = (1 : Int32) ∨ z = (2 : Int32) := by
  have e0 : (0 : Int32).toInt = 0 := by decide +kernel
  have e1 : (1 : Int32).toInt = 1 := by decide +kernel
  have e2 : (2 : Int32).toInt = 2 := by decide +kernel
  simp only [← Int32.toInt_inj]
  omega
theorem own_lt2 (z : Int32) (h1 : 0 ≤ z.toInt) (h2 : z.toInt < 2) : z = (0 : Int32) ∨ z = (1 : Int32) := by
  have e0 : (0 : Int32).toInt = 0 := by decide +kernel
  have e1 : (1 : Int32).toInt = 1 := by decide +kernel
  simp only [← Int32.toInt_inj]
  omega
theorem own_mod3 (p : Int32) : ((p &&& (2147483647 : Int32)) % (3 : Int32)) = (0 : Int32) ∨ ((p &&& (2147483647 : Int32)) % (3 : Int32)) = (1 : Int32) ∨ ((p &&& (2147483647 : Int32)) % (3 : Int32)) = (2 : Int32) :=
  own_lt3 _ (own_mod_lo p 3 (by decide +kernel)) (own_mod_hi p 3 (by decide +kernel) 3 (by decide +kernel))
theorem own_and2 (p : Int32) : (p &&& (1 : Int32)) = (0 : Int32) ∨ (p &&& (1 : Int32)) = (1 : Int32) := by
  have e := Jvm.Kit.i32_mask p 1 (k := 1) (by decide) (by decide)
  exact own_lt2 _ (by rw [e]; omega) (by rw [e]; omega)

theorem d0_0 : decode prog_29_method_4_code 0 = .ok (.aload_n 0, 1) := by decide +kernel
theorem d0_1 : decode prog_29_method_4_code 1 = .ok (.getstatic 26, 3) := by decide +kernel
theorem d0_4 : decode prog_29_method_4_code 4 = .ok (.if_acmp .ne 9, 3) := by decide +kernel
theorem d0_7 : decode prog_29_method_4_code 7 = .ok (.iload_n 1, 1) := by decide +kernel
theorem d0_8 : decode prog_29_method_4_code 8 = .ok (.ifCond .ne 5, 3) := by decide +kernel
theorem d0_11 : decode prog_29_method_4_code 11 = .ok (.iconst 1, 1) := by decide +kernel
theorem d0_12 : decode prog_29_method_4_code 12 = .ok (.ireturn, 1) := by decide +kernel
theorem d0_13 : decode prog_29_method_4_code 13 = .ok (.aload_n 0, 1) := by decide +kernel
theorem d0_14 : decode prog_29_method_4_code 14 = .ok (.invokestatic 30, 3) := by decide +kernel
theorem d0_17 : decode prog_29_method_4_code 17 = .ok (.ireturn, 1) := by decide +kernel
theorem d1_0 : decode prog_29_method_3_code 0 = .ok (.getstatic 7, 3) := by decide +kernel
theorem d1_3 : decode prog_29_method_3_code 3 = .ok (.aload_n 0, 1) := by decide +kernel
theorem d1_4 : decode prog_29_method_3_code 4 = .ok (.invokevirtual 13, 3) := by decide +kernel
theorem d1_7 : decode prog_29_method_3_code 7 = .ok (.iaload, 1) := by decide +kernel
theorem d1_8 : decode prog_29_method_3_code 8 = .ok (.tableswitch 28 1 3 #[42, 38, 46], 28) := by decide +kernel
theorem d1_46 : decode prog_29_method_3_code 46 = .ok (.iconst 0, 1) := by decide +kernel
theorem d1_47 : decode prog_29_method_3_code 47 = .ok (.goto 8, 3) := by decide +kernel
theorem d1_50 : decode prog_29_method_3_code 50 = .ok (.iconst 1, 1) := by decide +kernel
theorem d1_51 : decode prog_29_method_3_code 51 = .ok (.goto 4, 3) := by decide +kernel
theorem d1_54 : decode prog_29_method_3_code 54 = .ok (.iconst 3, 1) := by decide +kernel
theorem d1_55 : decode prog_29_method_3_code 55 = .ok (.ireturn, 1) := by decide +kernel
theorem d2_0 : decode jdk_37_method_2_code 0 = .ok (.aload_n 0, 1) := by decide +kernel
theorem d2_1 : decode jdk_37_method_2_code 1 = .ok (.getfield 7, 3) := by decide +kernel
theorem d2_4 : decode jdk_37_method_2_code 4 = .ok (.ireturn, 1) := by decide +kernel
theorem pn0 : plainName "com/example/unruly_environment/unrulyenvironment/cli/ExitCodes" = true := by first | (simp [plainName, overriddenIn]; done) | decide +kernel
theorem pn1 : plainName "com/example/unruly_environment/unrulyenvironment/cli/ExitCodes" = true := by first | (simp [plainName, overriddenIn]; done) | decide +kernel
theorem pn2 : plainName "java/lang/Enum" = true := by first | (simp [plainName, overriddenIn]; done) | decide +kernel
theorem pn3 : plainName "com/example/unruly_environment/unrulyenvironment/cli/ExitCodesOfSearchPinLaw" = true := by first | (simp [plainName, overriddenIn]; done) | decide +kernel
theorem pd0 : parseMethodDescriptor "()I" = some ⟨[], some .int⟩ := by decide +kernel
theorem pd1 : parseMethodDescriptor "(Lcom/example/unruly_environment/unrulyenvironment/game/Verdict;)I" = some ⟨[(.object "com/example/unruly_environment/unrulyenvironment/game/Verdict")], some .int⟩ := by decide +kernel
theorem pd2 : parseMethodDescriptor "(Lcom/example/unruly_environment/unrulyenvironment/game/Verdict;Z)I" = some ⟨[(.object "com/example/unruly_environment/unrulyenvironment/game/Verdict"), .boolean], some .int⟩ := by decide +kernel
def QV (val : Value) (h0 : Heap) (n0 : Nat) (v : Option Value) (h : Heap) (L : List Loc) : Prop := v = some val ∧ Fr n0 L ∧ h = h0
def Ctx (Z : State) (h0 : Heap) (s_REALIZABLE : Addr) (s_UNREALIZABLE : Addr) (s_SW : Addr) (s_VACUOUS : Addr) (c_SW : Cell) : Prop :=
  Sta Z h0 "com/example/unruly_environment/unrulyenvironment/game/Verdict" "REALIZABLE" "Lcom/example/unruly_environment/unrulyenvironment/game/Verdict;" (.ref s_REALIZABLE) ∧
  Sta Z h0 "com/example/unruly_environment/unrulyenvironment/game/Verdict" "UNREALIZABLE" "Lcom/example/unruly_environment/unrulyenvironment/game/Verdict;" (.ref s_UNREALIZABLE) ∧
  s_REALIZABLE ≠ s_UNREALIZABLE ∧
  Sta Z h0 "com/example/unruly_environment/unrulyenvironment/cli/ExitCodes$1" "$SwitchMap$com$example$unruly_environment$unrulyenvironment$game$Verdict" "[I" (.ref s_SW) ∧
  Fld Z h0 s_REALIZABLE "java/lang/Enum" "ordinal" "I" (.int (0 : Int32)) ∧
  Exa Z h0 s_REALIZABLE "com/example/unruly_environment/unrulyenvironment/game/Verdict" ∧
  Arr Z h0 s_SW c_SW .int ∧
  ¬ ((0 : Int32) < 0 ∨ c_SW.slots.size ≤ (0 : Int32).toNatClampNeg) ∧
  c_SW.slots[(0 : Int32).toNatClampNeg]? = some (.int (1 : Int32)) ∧
  Fld Z h0 s_UNREALIZABLE "java/lang/Enum" "ordinal" "I" (.int (1 : Int32)) ∧
  Exa Z h0 s_UNREALIZABLE "com/example/unruly_environment/unrulyenvironment/game/Verdict" ∧
  ¬ ((1 : Int32) < 0 ∨ c_SW.slots.size ≤ (1 : Int32).toNatClampNeg) ∧
  c_SW.slots[(1 : Int32).toNatClampNeg]? = some (.int (2 : Int32)) ∧
  Sta Z h0 "com/example/unruly_environment/unrulyenvironment/game/Verdict" "VACUOUS" "Lcom/example/unruly_environment/unrulyenvironment/game/Verdict;" (.ref s_VACUOUS) ∧
  s_UNREALIZABLE ≠ s_VACUOUS ∧
  Fld Z h0 s_VACUOUS "java/lang/Enum" "ordinal" "I" (.int (2 : Int32)) ∧
  Exa Z h0 s_VACUOUS "com/example/unruly_environment/unrulyenvironment/game/Verdict" ∧
  ¬ ((2 : Int32) < 0 ∨ c_SW.slots.size ≤ (2 : Int32).toNatClampNeg) ∧
  c_SW.slots[(2 : Int32).toNatClampNeg]? = some (.int (3 : Int32))

set_option maxRecDepth 65536 in
set_option maxHeartbeats 40000000 in
theorem r0 (l : Launch) (Z : State) (a0 : Array Value) (hw : ∀ d ∈ tables_1, d.before a0 Z = true) (ws : List Jvm.Cond) (h0 : Heap) (n0 : Nat) (s_REALIZABLE : Addr) (s_UNREALIZABLE : Addr) (s_SW : Addr) (s_VACUOUS : Addr) (c_SW : Cell) (K : Ctx Z h0 s_REALIZABLE s_UNREALIZABLE s_SW s_VACUOUS c_SW) :
    MetFree l (⟨"java/lang/Enum", "ordinal", "()I"⟩ : MethodName) (head1 (Jvm.Cond.code (⟨"java/lang/Enum", "ordinal", "()I"⟩ : MethodName) jdk_37_method_2_code 1 (some .int) :: ws) ({ frames := 0, cells := 0, slots := 0, locals := 0 } : Room)) (fun a U => a = #[(.ref s_REALIZABLE)] ∧ Z.Warmed39 U.vm ∧ U.heap = h0) (fun _ _ _ _ _ => True) (fun _ U o U' => ∃ v L, o = .returned v ∧ QV (.int (0 : Int32)) h0 n0 v U'.heap L ∧ FrameEnd U o U' L ({ frames := 0, cells := 0, slots := 0, locals := 0 } : Room).cells ({ frames := 0, cells := 0, slots := 0, locals := 0 } : Room).slots) := by
  obtain ⟨S_REALIZABLE, S_UNREALIZABLE, ne_REALIZABLE_UNREALIZABLE, S_SW, F_REALIZABLE_ordinal, E_REALIZABLE, A_SW, in_SW_0, at_SW_0, F_UNREALIZABLE_ordinal, E_UNREALIZABLE, in_SW_1, at_SW_1, S_VACUOUS, ne_UNREALIZABLE_VACUOUS, F_VACUOUS_ordinal, E_VACUOUS, in_SW_2, at_SW_2⟩ := id K
  refine MetFree.of_bodySF (plainFor_of_name pn2) hisR ?_
  intro p e s m args below meth c s₁ Bd hml0 hP hK
  obtain ⟨rfl, hZ, hh⟩ := hP
  have hx := Bd.exec
  have hby := Bd.bytes
  have hml : c.maxLocals = 1 := hml0
  have hown : s.vm.findClass "java/lang/Enum" = some m.cls := findClass_of_methodNamed Bd.named
  have X0 : Stand p l e ({ frames := 0, cells := 0, slots := 0, locals := 0 } : Room) s m #[(.ref s_REALIZABLE)] below meth c s₁ [] 0 0 := Stand.of_body Bd
  have e0 : s₁.heap = h0 := by rw [← hh, Bd.state]; rfl
  have N0 := Fr.nil n0
  have pre0 : ∀ t, Steps p.tables e below (s₁.setTop (mkF m 0 #[.val (.ref s_REALIZABLE)] [])) t → Steps p.tables e below (s₁.setTop (entryFrame m #[(.ref s_REALIZABLE)] 1)) t := fun t k => castTop (by first | (simp [entryFrame, mkF, argsToLocals, Value.category]; done) | rfl) k
  obtain ⟨T1, X1, e1, st1⟩ := getF X0 hx hZ hown (host := "") (Or.inl (hw _ (List.mem_of_getElem? (i := 23) rfl))) Via.refl e0 F_REALIZABLE_ordinal (g := (mkF m 1 #[.val (.ref s_REALIZABLE)] [(.ref s_REALIZABLE)])) rfl rfl (hb hby d2_1)
  obtain ⟨fs, hr, hrun, hended, hW, hsame⟩ := X1.leave (v := some (.int (0 : Int32))) (fun h => by rw [Bd.returns] at h; cases h)
  refine ⟨_, _, pre0 _ ?_, hrun, hended, _, _, rfl, ?_, ⟨_, rfl⟩, hW, hsame.mono (by decide) (by decide)⟩
  · show Steps p.tables e below (s₁.setTop (mkF m 0 #[.val (.ref s_REALIZABLE)] [])) _
    refine XS.aloadN X0.here hx rfl (hb hby d2_0) rfl rfl ?_
    show Steps p.tables e below (s₁.setTop (mkF m 1 #[.val (.ref s_REALIZABLE)] [(.ref s_REALIZABLE)])) _
    refine st1 _ ?_
    show Steps p.tables e below (T1.setTop (mkF m 4 #[.val (.ref s_REALIZABLE)] [(.int (0 : Int32))])) _
    exact retOut X1 hx (i := .ireturn) Bd.returns rfl (Or.inl ⟨rfl, Or.inl rfl, _, rfl⟩) (hb hby d2_4) hr
  · exact ⟨rfl, N0, e1⟩
set_option maxRecDepth 65536 in
set_option maxHeartbeats 40000000 in
theorem r1 (l : Launch) (Z : State) (a0 : Array Value) (hw : ∀ d ∈ tables_1, d.before a0 Z = true) (ws : List Jvm.Cond) (h0 : Heap) (n0 : Nat) (s_REALIZABLE : Addr) (s_UNREALIZABLE : Addr) (s_SW : Addr) (s_VACUOUS : Addr) (c_SW : Cell) (K : Ctx Z h0 s_REALIZABLE s_UNREALIZABLE s_SW s_VACUOUS c_SW) :
    MetFree l (⟨"com/example/unruly_environment/unrulyenvironment/cli/ExitCodes", "ofExplanation", "(Lcom/example/unruly_environment/unrulyenvironment/game/Verdict;)I"⟩ : MethodName) (head1 (Jvm.Cond.code (⟨"com/example/unruly_environment/unrulyenvironment/cli/ExitCodes", "ofExplanation", "(Lcom/example/unruly_environment/unrulyenvironment/game/Verdict;)I"⟩ : MethodName) prog_29_method_3_code 1 (some .int) :: ws) ({ frames := 1, cells := 0, slots := 0, locals := 13 } : Room)) (fun a U => a = #[(.ref s_REALIZABLE)] ∧ Z.Warmed39 U.vm ∧ U.heap = h0) (fun _ _ _ _ _ => True) (fun _ U o U' => ∃ v L, o = .returned v ∧ QV (.int (1 : Int32)) h0 n0 v U'.heap L ∧ FrameEnd U o U' L ({ frames := 1, cells := 0, slots := 0, locals := 13 } : Room).cells ({ frames := 1, cells := 0, slots := 0, locals := 13 } : Room).slots) := by
  obtain ⟨S_REALIZABLE, S_UNREALIZABLE, ne_REALIZABLE_UNREALIZABLE, S_SW, F_REALIZABLE_ordinal, E_REALIZABLE, A_SW, in_SW_0, at_SW_0, F_UNREALIZABLE_ordinal, E_UNREALIZABLE, in_SW_1, at_SW_1, S_VACUOUS, ne_UNREALIZABLE_VACUOUS, F_VACUOUS_ordinal, E_VACUOUS, in_SW_2, at_SW_2⟩ := id K
  refine MetFree.of_bodySF (plainFor_of_name pn1) hisR ?_
  intro p e s m args below meth c s₁ Bd hml0 hP hK
  obtain ⟨rfl, hZ, hh⟩ := hP
  have hx := Bd.exec
  have hby := Bd.bytes
  have hml : c.maxLocals = 1 := hml0
  have hown : s.vm.findClass "com/example/unruly_environment/unrulyenvironment/cli/ExitCodes" = some m.cls := findClass_of_methodNamed Bd.named
  have X0 : Stand p l e ({ frames := 1, cells := 0, slots := 0, locals := 13 } : Room) s m #[(.ref s_REALIZABLE)] below meth c s₁ [] 0 0 := Stand.of_body Bd
  have e0 : s₁.heap = h0 := by rw [← hh, Bd.state]; rfl
  have N0 := Fr.nil n0
  have pre0 : ∀ t, Steps p.tables e below (s₁.setTop (mkF m 0 #[.val (.ref s_REALIZABLE)] [])) t → Steps p.tables e below (s₁.setTop (entryFrame m #[(.ref s_REALIZABLE)] 1)) t := fun t k => castTop (by first | (simp [entryFrame, mkF, argsToLocals, Value.category]; done) | rfl) k
  obtain ⟨T1, X1, e1, st1⟩ := getS X0 hx hZ hown (host := "") (hw _ (List.mem_of_getElem? (i := 13) rfl)) Via.refl e0 S_SW (g := (mkF m 0 #[.val (.ref s_REALIZABLE)] [])) rfl (hb hby d1_0)
  obtain ⟨cq2, kq2, q2a, q2b, q2c⟩ := isOf hZ e1 E_REALIZABLE
  obtain ⟨_, _, ⟨T2, L2, k2, n2⟩, -, X2, ⟨Lc2, hQ2, l2, y2, z2⟩, st2⟩ := X1.virtualBackUp hx (owner := "java/lang/Enum") (x := (⟨"com/example/unruly_environment/unrulyenvironment/game/Verdict", "ordinal", "()I"⟩ : MethodName)) (y := (⟨"java/lang/Enum", "ordinal", "()I"⟩ : MethodName)) hown (mvT hZ (hw _ (List.mem_of_getElem? (i := 16) rfl))) (mvT hZ (hw _ (List.mem_of_getElem? (i := 17) rfl))) (mvT hZ (hw _ (List.mem_of_getElem? (i := 18) rfl))) (by decide) (mvT hZ (hw _ (List.mem_of_getElem? (i := 20) rfl))) (mvT hZ (hw _ (List.mem_of_getElem? (i := 19) rfl))) (backOf (W := 1) (r0 l Z a0 hw [] h0 n0 s_REALIZABLE s_UNREALIZABLE s_SW s_VACUOUS c_SW K) hZ (hw _ (List.mem_of_getElem? (i := 22) rfl)) (hw _ (List.mem_of_getElem? (i := 21) rfl)) (by decide) (by decide)) q2a q2c (g := (mkF m 4 #[.val (.ref s_REALIZABLE)] [(.ref s_REALIZABLE), (.ref s_SW)])) rfl (by rw [hml]; rfl) (Steps.refl _) (argsL := []) (rest := [(.ref s_SW)]) (lenOf pd0 rfl) rfl (by show 2 * 0 + _ ≤ _; exact Nat.le_of_eq rfl) (hb hby d1_4) (fun _ _ => ⟨rfl, e1, (by decide : 0 + 0 ≤ _), (by decide : 0 + 0 ≤ _)⟩)
  dsimp only [Pt.U, Pt.locs, Pt.cells, Pt.slots] at X2 l2 y2 z2 st2 hQ2
  subst l2 y2 z2
  obtain ⟨rfl, N2q, e2⟩ := hQ2
  have N2 := Fr.app N0 N2q
  obtain ⟨fs, hr, hrun, hended, hW, hsame⟩ := X2.leave (v := some (.int (1 : Int32))) (fun h => by rw [Bd.returns] at h; cases h)
  refine ⟨_, _, pre0 _ ?_, hrun, hended, _, _, rfl, ?_, ⟨_, rfl⟩, hW, hsame.mono (by decide) (by decide)⟩
  · show Steps p.tables e below (s₁.setTop (mkF m 0 #[.val (.ref s_REALIZABLE)] [])) _
    refine st1 _ ?_
    show Steps p.tables e below (T1.setTop (mkF m 3 #[.val (.ref s_REALIZABLE)] [(.ref s_SW)])) _
    refine XS.aloadN X1.here hx rfl (hb hby d1_3) rfl rfl ?_
    show Steps p.tables e below (T1.setTop (mkF m 4 #[.val (.ref s_REALIZABLE)] [(.ref s_REALIZABLE), (.ref s_SW)])) _
    refine st2.trans ?_
    show Steps p.tables e below (T2.setTop (mkF m 7 #[.val (.ref s_REALIZABLE)] [(.int (0 : Int32)), (.ref s_SW)])) _
    refine X2.iaload hx (j := (0 : Int32)) (v := (.int (1 : Int32))) (by rw [e2]; exact A_SW.1) (State.isArrayOf_alike hZ.alike A_SW.2.1) A_SW.2.2 in_SW_0 at_SW_0 (g := (mkF m 7 #[.val (.ref s_REALIZABLE)] [(.int (0 : Int32)), (.ref s_SW)])) rfl rfl (hb hby d1_7) _ ?_
    show Steps p.tables e below (T2.setTop (mkF m 8 #[.val (.ref s_REALIZABLE)] [(.int (1 : Int32))])) _
    refine XS.tswIn X2.here hx rfl (pc0 := 8) (pc' := 50) (o := 42) rfl (hb hby d1_8) rfl (by decide +kernel) (by decide +kernel) (by decide) (by decide) ?_
    show Steps p.tables e below (T2.setTop (mkF m 50 #[.val (.ref s_REALIZABLE)] [])) _
    refine XS.iconst X2.here hx rfl (hb hby d1_50) ?_
    show Steps p.tables e below (T2.setTop (mkF m 51 #[.val (.ref s_REALIZABLE)] [(.int (1 : Int32))])) _
    refine XS.goto X2.here hx rfl (pc0 := 51) (pc' := 55) rfl (hb hby d1_51) (by decide) (by decide) ?_
    show Steps p.tables e below (T2.setTop (mkF m 55 #[.val (.ref s_REALIZABLE)] [(.int (1 : Int32))])) _
    exact retOut X2 hx (i := .ireturn) Bd.returns rfl (Or.inl ⟨rfl, Or.inl rfl, _, rfl⟩) (hb hby d1_55) hr
  · exact ⟨rfl, N2, e2⟩
set_option maxRecDepth 65536 in
set_option maxHeartbeats 40000000 in
theorem r2 (l : Launch) (Z : State) (a0 : Array Value) (hw : ∀ d ∈ tables_1, d.before a0 Z = true) (ws : List Jvm.Cond) (h0 : Heap) (n0 : Nat) (s_REALIZABLE : Addr) (s_UNREALIZABLE : Addr) (s_SW : Addr) (s_VACUOUS : Addr) (c_SW : Cell) (K : Ctx Z h0 s_REALIZABLE s_UNREALIZABLE s_SW s_VACUOUS c_SW) :
    MetFree l (⟨"com/example/unruly_environment/unrulyenvironment/cli/ExitCodes", "ofSearch", "(Lcom/example/unruly_environment/unrulyenvironment/game/Verdict;Z)I"⟩ : MethodName) (head1 (Jvm.Cond.code (⟨"com/example/unruly_environment/unrulyenvironment/cli/ExitCodes", "ofSearch", "(Lcom/example/unruly_environment/unrulyenvironment/game/Verdict;Z)I"⟩ : MethodName) prog_29_method_4_code 2 (some .int) :: ws) ({ frames := 2, cells := 0, slots := 0, locals := 25 } : Room)) (fun a U => a = #[(.ref s_REALIZABLE), (.int (0 : Int32))] ∧ Z.Warmed39 U.vm ∧ U.heap = h0) (fun _ _ _ _ _ => True) (fun _ U o U' => ∃ v L, o = .returned v ∧ QV (.int (1 : Int32)) h0 n0 v U'.heap L ∧ FrameEnd U o U' L ({ frames := 2, cells := 0, slots := 0, locals := 25 } : Room).cells ({ frames := 2, cells := 0, slots := 0, locals := 25 } : Room).slots) := by
  obtain ⟨S_REALIZABLE, S_UNREALIZABLE, ne_REALIZABLE_UNREALIZABLE, S_SW, F_REALIZABLE_ordinal, E_REALIZABLE, A_SW, in_SW_0, at_SW_0, F_UNREALIZABLE_ordinal, E_UNREALIZABLE, in_SW_1, at_SW_1, S_VACUOUS, ne_UNREALIZABLE_VACUOUS, F_VACUOUS_ordinal, E_VACUOUS, in_SW_2, at_SW_2⟩ := id K
  refine MetFree.of_bodySF (plainFor_of_name pn0) hisR ?_
  intro p e s m args below meth c s₁ Bd hml0 hP hK
  obtain ⟨rfl, hZ, hh⟩ := hP
  have hx := Bd.exec
  have hby := Bd.bytes
  have hml : c.maxLocals = 2 := hml0
  have hown : s.vm.findClass "com/example/unruly_environment/unrulyenvironment/cli/ExitCodes" = some m.cls := findClass_of_methodNamed Bd.named
  have X0 : Stand p l e ({ frames := 2, cells := 0, slots := 0, locals := 25 } : Room) s m #[(.ref s_REALIZABLE), (.int (0 : Int32))] below meth c s₁ [] 0 0 := Stand.of_body Bd
  have e0 : s₁.heap = h0 := by rw [← hh, Bd.state]; rfl
  have N0 := Fr.nil n0
  have pre0 : ∀ t, Steps p.tables e below (s₁.setTop (mkF m 0 #[.val (.ref s_REALIZABLE), .val (.int (0 : Int32))] [])) t → Steps p.tables e below (s₁.setTop (entryFrame m #[(.ref s_REALIZABLE), (.int (0 : Int32))] 2)) t := fun t k => castTop (by first | (simp [entryFrame, mkF, argsToLocals, Value.category]; done) | rfl) k
  obtain ⟨T1, X1, e1, st1⟩ := getS X0 hx hZ hown (host := "") (hw _ (List.mem_of_getElem? (i := 8) rfl)) Via.refl e0 S_UNREALIZABLE (g := (mkF m 1 #[.val (.ref s_REALIZABLE), .val (.int (0 : Int32))] [(.ref s_REALIZABLE)])) rfl (hb hby d0_1)
  obtain ⟨_, _, ⟨T2, L2, k2, n2⟩, -, X2, ⟨Lc2, hQ2, l2, y2, z2⟩, st2⟩ := Jvm.LawKit.callS X1 hx (y := (⟨"com/example/unruly_environment/unrulyenvironment/cli/ExitCodes", "ofExplanation", "(Lcom/example/unruly_environment/unrulyenvironment/game/Verdict;)I"⟩ : MethodName)) hown (mvT hZ (hw _ (List.mem_of_getElem? (i := 10) rfl))) (mvT hZ (hw _ (List.mem_of_getElem? (i := 11) rfl))) (mvT hZ (hw _ (List.mem_of_getElem? (i := 6) rfl))) (mvT hZ (hw _ (List.mem_of_getElem? (i := 12) rfl))) (by decide) (backOf (W := 0) (r1 l Z a0 hw [] h0 n0 s_REALIZABLE s_UNREALIZABLE s_SW s_VACUOUS c_SW K) hZ (hw _ (List.mem_of_getElem? (i := 12) rfl)) (hw _ (List.mem_of_getElem? (i := 6) rfl)) (by decide) (by decide)) (g := (mkF m 14 #[.val (.ref s_REALIZABLE), .val (.int (0 : Int32))] [(.ref s_REALIZABLE)])) rfl (by rw [hml]; rfl) (argsL := [(.ref s_REALIZABLE)]) (rest := []) (lenOf pd1 rfl) rfl (by show 2 * 0 + _ ≤ _; exact Nat.le_of_eq rfl) (hb hby d0_14) (fun _ _ => ⟨rfl, e1, (by decide : 0 + 0 ≤ _), (by decide : 0 + 0 ≤ _)⟩)
  dsimp only [Pt.U, Pt.locs, Pt.cells, Pt.slots] at X2 l2 y2 z2 st2 hQ2
  subst l2 y2 z2
  obtain ⟨rfl, N2q, e2⟩ := hQ2
  have N2 := Fr.app N0 N2q
  obtain ⟨fs, hr, hrun, hended, hW, hsame⟩ := X2.leave (v := some (.int (1 : Int32))) (fun h => by rw [Bd.returns] at h; cases h)
  refine ⟨_, _, pre0 _ ?_, hrun, hended, _, _, rfl, ?_, ⟨_, rfl⟩, hW, hsame.mono (by decide) (by decide)⟩
  · show Steps p.tables e below (s₁.setTop (mkF m 0 #[.val (.ref s_REALIZABLE), .val (.int (0 : Int32))] [])) _
    refine XS.aloadN X0.here hx rfl (hb hby d0_0) rfl rfl ?_
    show Steps p.tables e below (s₁.setTop (mkF m 1 #[.val (.ref s_REALIZABLE), .val (.int (0 : Int32))] [(.ref s_REALIZABLE)])) _
    refine st1 _ ?_
    show Steps p.tables e below (T1.setTop (mkF m 4 #[.val (.ref s_REALIZABLE), .val (.int (0 : Int32))] [(.ref s_UNREALIZABLE), (.ref s_REALIZABLE)])) _
    refine Jvm.RoadKit.acmp (g := (mkF m 4 #[.val (.ref s_REALIZABLE), .val (.int (0 : Int32))] [(.ref s_UNREALIZABLE), (.ref s_REALIZABLE)])) X1 hx rfl rfl rfl (pc0 := 4) (pc' := 13) (same := false) rfl (hb hby d0_4) rfl (decide_eq_false fun q => ne_REALIZABLE_UNREALIZABLE (Value.ref.inj q)) (by decide) (by decide) ?_
    show Steps p.tables e below (T1.setTop (mkF m 13 #[.val (.ref s_REALIZABLE), .val (.int (0 : Int32))] [])) _
    refine XS.aloadN X1.here hx rfl (hb hby d0_13) rfl rfl ?_
    show Steps p.tables e below (T1.setTop (mkF m 14 #[.val (.ref s_REALIZABLE), .val (.int (0 : Int32))] [(.ref s_REALIZABLE)])) _
    refine st2 _ ?_
    show Steps p.tables e below (T2.setTop (mkF m 17 #[.val (.ref s_REALIZABLE), .val (.int (0 : Int32))] [(.int (1 : Int32))])) _
    exact retOut X2 hx (i := .ireturn) Bd.returns rfl (Or.inl ⟨rfl, Or.inl rfl, _, rfl⟩) (hb hby d0_17) hr
  · exact ⟨rfl, N2, e2⟩
set_option maxRecDepth 65536 in
set_option maxHeartbeats 40000000 in
theorem law_k0_0 (l : Launch) (Z : State) (a0 : Array Value) (hw : ∀ d ∈ tables_1, d.before a0 Z = true) (ws : List Jvm.Cond) (h0 : Heap) (n0 : Nat) (s_REALIZABLE : Addr) (s_UNREALIZABLE : Addr) (s_SW : Addr) (s_VACUOUS : Addr) (c_SW : Cell) (K : Ctx Z h0 s_REALIZABLE s_UNREALIZABLE s_SW s_VACUOUS c_SW) (p0 : Int32) (p1 : Int32) (hp0 : ((p0 &&& (2147483647 : Int32)) % (3 : Int32)) = (0 : Int32)) (hp1 : (p1 &&& (1 : Int32)) = (0 : Int32)) :
    MetFree l x (head1 (Jvm.Cond.code x code maxLocals ret :: ws) room_1) (fun a U => a = #[(.int p0), (.int p1)] ∧ Z.Warmed39 U.vm ∧ U.heap = h0) (fun _ _ _ _ _ => True) (fun _ U o U' => ∃ v L, o = .returned v ∧ QV (.int (1 : Int32)) h0 n0 v U'.heap L ∧ FrameEnd U o U' L room_1.cells room_1.slots) := by
  obtain ⟨S_REALIZABLE, S_UNREALIZABLE, ne_REALIZABLE_UNREALIZABLE, S_SW, F_REALIZABLE_ordinal, E_REALIZABLE, A_SW, in_SW_0, at_SW_0, F_UNREALIZABLE_ordinal, E_UNREALIZABLE, in_SW_1, at_SW_1, S_VACUOUS, ne_UNREALIZABLE_VACUOUS, F_VACUOUS_ordinal, E_VACUOUS, in_SW_2, at_SW_2⟩ := id K
  refine MetFree.of_bodySF (plainFor_of_name pn3) hisR ?_
  intro p e s m args below meth c s₁ Bd hml0 hP hK
  obtain ⟨rfl, hZ, hh⟩ := hP
  have hx := Bd.exec
  have hby := Bd.bytes
  have hml : c.maxLocals = 6 := hml0
  have hown : s.vm.findClass "com/example/unruly_environment/unrulyenvironment/cli/ExitCodesOfSearchPinLaw" = some m.cls := findClass_of_methodNamed Bd.named
  have X0 : Stand p l e room_1 s m #[(.int p0), (.int p1)] below meth c s₁ [] 0 0 := Stand.of_body Bd
  have e0 : s₁.heap = h0 := by rw [← hh, Bd.state]; rfl
  have N0 := Fr.nil n0
  have pre0 : ∀ t, Steps p.tables e below (s₁.setTop (mkF m 0 #[.val (.int p0), .val (.int p1), .unset, .unset, .unset, .unset] [])) t → Steps p.tables e below (s₁.setTop (entryFrame m #[(.int p0), (.int p1)] maxLocals)) t := fun t k => castTop (by first | (simp [entryFrame, mkF, argsToLocals, Value.category, maxLocals]; done) | rfl) k
  obtain ⟨T1, X1, e1, st1⟩ := getS X0 hx hZ hown (host := "") (hw _ (List.mem_of_getElem? (i := 1) rfl)) Via.refl e0 S_REALIZABLE (g := (mkF m 23 #[.val (.int p0), .val (.int p1), .val (.int (0 : Int32)), .val (.int (0 : Int32)), .unset, .unset] [])) rfl (hb hby at_23)
  obtain ⟨_, _, ⟨T2, L2, k2, n2⟩, -, X2, ⟨Lc2, hQ2, l2, y2, z2⟩, st2⟩ := Jvm.LawKit.callS X1 hx (y := (⟨"com/example/unruly_environment/unrulyenvironment/cli/ExitCodes", "ofSearch", "(Lcom/example/unruly_environment/unrulyenvironment/game/Verdict;Z)I"⟩ : MethodName)) hown (mvT hZ (hw _ (List.mem_of_getElem? (i := 4) rfl))) (mvT hZ (hw _ (List.mem_of_getElem? (i := 5) rfl))) (mvT hZ (hw _ (List.mem_of_getElem? (i := 6) rfl))) (mvT hZ (hw _ (List.mem_of_getElem? (i := 7) rfl))) (by decide) (backOf (W := 0) (r2 l Z a0 hw [] h0 n0 s_REALIZABLE s_UNREALIZABLE s_SW s_VACUOUS c_SW K) hZ (hw _ (List.mem_of_getElem? (i := 7) rfl)) (hw _ (List.mem_of_getElem? (i := 6) rfl)) (by decide) (by decide)) (g := (mkF m 71 #[.val (.int p0), .val (.int p1), .val (.int (0 : Int32)), .val (.int (0 : Int32)), .val (.ref s_REALIZABLE), .val (.int (1 : Int32))] [(.int (0 : Int32)), (.ref s_REALIZABLE)])) rfl (by rw [hml]; rfl) (argsL := [(.ref s_REALIZABLE), (.int (0 : Int32))]) (rest := []) (lenOf pd2 rfl) rfl (by show 2 * 0 + _ ≤ _; exact Nat.le_of_eq rfl) (hb hby at_71) (fun _ _ => ⟨rfl, e1, (by decide : 0 + 0 ≤ _), (by decide : 0 + 0 ≤ _)⟩)
  dsimp only [Pt.U, Pt.locs, Pt.cells, Pt.slots] at X2 l2 y2 z2 st2 hQ2
  subst l2 y2 z2
  obtain ⟨rfl, N2q, e2⟩ := hQ2
  have N2 := Fr.app N0 N2q
  obtain ⟨fs, hr, hrun, hended, hW, hsame⟩ := X2.leave (v := some (.int (1 : Int32))) (fun h => by rw [Bd.returns] at h; cases h)
  refine ⟨_, _, pre0 _ ?_, hrun, hended, _, _, rfl, ?_, ⟨_, rfl⟩, hW, hsame.mono (by decide) (by decide)⟩
  · show Steps p.tables e below (s₁.setTop (mkF m 0 #[.val (.int p0), .val (.int p1), .unset, .unset, .unset, .unset] [])) _
    refine XS.iloadN X0.here hx rfl (hb hby at_0) rfl ?_
    show Steps p.tables e below (s₁.setTop (mkF m 1 #[.val (.int p0), .val (.int p1), .unset, .unset, .unset, .unset] [(.int p0)])) _
    refine X0.ldcInt hx hown (mvT hZ (hw _ (List.mem_of_getElem? (i := 0) rfl))) (g := (mkF m 1 #[.val (.int p0), .val (.int p1), .unset, .unset, .unset, .unset] [(.int p0)])) rfl (hb hby at_1) _ ?_
    show Steps p.tables e below (s₁.setTop (mkF m 3 #[.val (.int p0), .val (.int p1), .unset, .unset, .unset, .unset] [(.int (2147483647 : Int32)), (.int p0)])) _
    refine XS.iand X0.here hx rfl (hb hby at_3) rfl ?_
    show Steps p.tables e below (s₁.setTop (mkF m 4 #[.val (.int p0), .val (.int p1), .unset, .unset, .unset, .unset] [(.int (p0 &&& (2147483647 : Int32)))])) _
    refine XS.iconst X0.here hx rfl (hb hby at_4) ?_
    show Steps p.tables e below (s₁.setTop (mkF m 5 #[.val (.int p0), .val (.int p1), .unset, .unset, .unset, .unset] [(.int (3 : Int32)), (.int (p0 &&& (2147483647 : Int32)))])) _
    refine Jvm.RoadKit.iremM X0 hx rfl (hb hby at_5) rfl (by decide) ?_
    show Steps p.tables e below (s₁.setTop (mkF m 6 #[.val (.int p0), .val (.int p1), .unset, .unset, .unset, .unset] [(.int ((p0 &&& (2147483647 : Int32)) % (3 : Int32)))])) _
    rw [hp0]
    show Steps p.tables e below (s₁.setTop (mkF m 6 #[.val (.int p0), .val (.int p1), .unset, .unset, .unset, .unset] [(.int (0 : Int32))])) _
    refine XS.istoreN X0.here hx rfl (hb hby at_6) rfl (l' := #[.val (.int p0), .val (.int p1), .val (.int (0 : Int32)), .unset, .unset, .unset]) rfl ?_
    show Steps p.tables e below (s₁.setTop (mkF m 7 #[.val (.int p0), .val (.int p1), .val (.int (0 : Int32)), .unset, .unset, .unset] [])) _
    refine XS.iloadN X0.here hx rfl (hb hby at_7) rfl ?_
    show Steps p.tables e below (s₁.setTop (mkF m 8 #[.val (.int p0), .val (.int p1), .val (.int (0 : Int32)), .unset, .unset, .unset] [(.int p1)])) _
    refine XS.iconst X0.here hx rfl (hb hby at_8) ?_
    show Steps p.tables e below (s₁.setTop (mkF m 9 #[.val (.int p0), .val (.int p1), .val (.int (0 : Int32)), .unset, .unset, .unset] [(.int (1 : Int32)), (.int p1)])) _
    refine XS.iand X0.here hx rfl (hb hby at_9) rfl ?_
    show Steps p.tables e below (s₁.setTop (mkF m 10 #[.val (.int p0), .val (.int p1), .val (.int (0 : Int32)), .unset, .unset, .unset] [(.int (p1 &&& (1 : Int32)))])) _
    rw [hp1]
    show Steps p.tables e below (s₁.setTop (mkF m 10 #[.val (.int p0), .val (.int p1), .val (.int (0 : Int32)), .unset, .unset, .unset] [(.int (0 : Int32))])) _
    refine XS.ifYes X0.here hx rfl (pc0 := 10) (pc' := 17) rfl (hb hby at_10) rfl (by decide +kernel) (by decide) (by decide) ?_
    show Steps p.tables e below (s₁.setTop (mkF m 17 #[.val (.int p0), .val (.int p1), .val (.int (0 : Int32)), .unset, .unset, .unset] [])) _
    refine XS.iconst X0.here hx rfl (hb hby at_17) ?_
    show Steps p.tables e below (s₁.setTop (mkF m 18 #[.val (.int p0), .val (.int p1), .val (.int (0 : Int32)), .unset, .unset, .unset] [(.int (0 : Int32))])) _
    refine XS.istoreN X0.here hx rfl (hb hby at_18) rfl (l' := #[.val (.int p0), .val (.int p1), .val (.int (0 : Int32)), .val (.int (0 : Int32)), .unset, .unset]) rfl ?_
    show Steps p.tables e below (s₁.setTop (mkF m 19 #[.val (.int p0), .val (.int p1), .val (.int (0 : Int32)), .val (.int (0 : Int32)), .unset, .unset] [])) _
    refine XS.iloadN X0.here hx rfl (hb hby at_19) rfl ?_
    show Steps p.tables e below (s₁.setTop (mkF m 20 #[.val (.int p0), .val (.int p1), .val (.int (0 : Int32)), .val (.int (0 : Int32)), .unset, .unset] [(.int (0 : Int32))])) _
    refine XS.ifNo X0.here hx rfl (hb hby at_20) rfl (by decide +kernel) ?_
    show Steps p.tables e below (s₁.setTop (mkF m 23 #[.val (.int p0), .val (.int p1), .val (.int (0 : Int32)), .val (.int (0 : Int32)), .unset, .unset] [])) _
    refine st1 _ ?_
    show Steps p.tables e below (T1.setTop (mkF m 26 #[.val (.int p0), .val (.int p1), .val (.int (0 : Int32)), .val (.int (0 : Int32)), .unset, .unset] [(.ref s_REALIZABLE)])) _
    refine XS.astore X1.here hx rfl (hb hby at_26) rfl rfl (l' := #[.val (.int p0), .val (.int p1), .val (.int (0 : Int32)), .val (.int (0 : Int32)), .val (.ref s_REALIZABLE), .unset]) rfl ?_
    show Steps p.tables e below (T1.setTop (mkF m 28 #[.val (.int p0), .val (.int p1), .val (.int (0 : Int32)), .val (.int (0 : Int32)), .val (.ref s_REALIZABLE), .unset] [])) _
    refine XS.iconst X1.here hx rfl (hb hby at_28) ?_
    show Steps p.tables e below (T1.setTop (mkF m 29 #[.val (.int p0), .val (.int p1), .val (.int (0 : Int32)), .val (.int (0 : Int32)), .val (.ref s_REALIZABLE), .unset] [(.int (1 : Int32))])) _
    refine XS.istore X1.here hx rfl (hb hby at_29) rfl (l' := #[.val (.int p0), .val (.int p1), .val (.int (0 : Int32)), .val (.int (0 : Int32)), .val (.ref s_REALIZABLE), .val (.int (1 : Int32))]) rfl ?_
    show Steps p.tables e below (T1.setTop (mkF m 31 #[.val (.int p0), .val (.int p1), .val (.int (0 : Int32)), .val (.int (0 : Int32)), .val (.ref s_REALIZABLE), .val (.int (1 : Int32))] [])) _
    refine XS.goto X1.here hx rfl (pc0 := 31) (pc' := 68) rfl (hb hby at_31) (by decide) (by decide) ?_
    show Steps p.tables e below (T1.setTop (mkF m 68 #[.val (.int p0), .val (.int p1), .val (.int (0 : Int32)), .val (.int (0 : Int32)), .val (.ref s_REALIZABLE), .val (.int (1 : Int32))] [])) _
    refine XS.aload X1.here hx rfl (hb hby at_68) rfl rfl ?_
    show Steps p.tables e below (T1.setTop (mkF m 70 #[.val (.int p0), .val (.int p1), .val (.int (0 : Int32)), .val (.int (0 : Int32)), .val (.ref s_REALIZABLE), .val (.int (1 : Int32))] [(.ref s_REALIZABLE)])) _
    refine XS.iloadN X1.here hx rfl (hb hby at_70) rfl ?_
    show Steps p.tables e below (T1.setTop (mkF m 71 #[.val (.int p0), .val (.int p1), .val (.int (0 : Int32)), .val (.int (0 : Int32)), .val (.ref s_REALIZABLE), .val (.int (1 : Int32))] [(.int (0 : Int32)), (.ref s_REALIZABLE)])) _
    refine st2 _ ?_
    show Steps p.tables e below (T2.setTop (mkF m 74 #[.val (.int p0), .val (.int p1), .val (.int (0 : Int32)), .val (.int (0 : Int32)), .val (.ref s_REALIZABLE), .val (.int (1 : Int32))] [(.int (1 : Int32))])) _
    refine XS.iload X2.here hx rfl (hb hby at_74) rfl ?_
    show Steps p.tables e below (T2.setTop (mkF m 76 #[.val (.int p0), .val (.int p1), .val (.int (0 : Int32)), .val (.int (0 : Int32)), .val (.ref s_REALIZABLE), .val (.int (1 : Int32))] [(.int (1 : Int32)), (.int (1 : Int32))])) _
    refine XS.icmpNo X2.here hx rfl (hb hby at_76) rfl (by decide +kernel) ?_
    show Steps p.tables e below (T2.setTop (mkF m 79 #[.val (.int p0), .val (.int p1), .val (.int (0 : Int32)), .val (.int (0 : Int32)), .val (.ref s_REALIZABLE), .val (.int (1 : Int32))] [])) _
    refine XS.iconst X2.here hx rfl (hb hby at_79) ?_
    show Steps p.tables e below (T2.setTop (mkF m 80 #[.val (.int p0), .val (.int p1), .val (.int (0 : Int32)), .val (.int (0 : Int32)), .val (.ref s_REALIZABLE), .val (.int (1 : Int32))] [(.int (1 : Int32))])) _
    refine XS.goto X2.here hx rfl (pc0 := 80) (pc' := 84) rfl (hb hby at_80) (by decide) (by decide) ?_
    show Steps p.tables e below (T2.setTop (mkF m 84 #[.val (.int p0), .val (.int p1), .val (.int (0 : Int32)), .val (.int (0 : Int32)), .val (.ref s_REALIZABLE), .val (.int (1 : Int32))] [(.int (1 : Int32))])) _
    exact retN X2 hx (t := .boolean) Bd.returns (by simp) (hb hby at_84) hr
  · exact ⟨rfl, N2, e2⟩
set_option maxRecDepth 65536 in
set_option maxHeartbeats 40000000 in
theorem r4 (l : Launch) (Z : State) (a0 : Array Value) (hw : ∀ d ∈ tables_1, d.before a0 Z = true) (ws : List Jvm.Cond) (h0 : Heap) (n0 : Nat) (s_REALIZABLE : Addr) (s_UNREALIZABLE : Addr) (s_SW : Addr) (s_VACUOUS : Addr) (c_SW : Cell) (K : Ctx Z h0 s_REALIZABLE s_UNREALIZABLE s_SW s_VACUOUS c_SW) :
    MetFree l (⟨"com/example/unruly_environment/unrulyenvironment/cli/ExitCodes", "ofSearch", "(Lcom/example/unruly_environment/unrulyenvironment/game/Verdict;Z)I"⟩ : MethodName) (head1 (Jvm.Cond.code (⟨"com/example/unruly_environment/unrulyenvironment/cli/ExitCodes", "ofSearch", "(Lcom/example/unruly_environment/unrulyenvironment/game/Verdict;Z)I"⟩ : MethodName) prog_29_method_4_code 2 (some .int) :: ws) ({ frames := 2, cells := 0, slots := 0, locals := 25 } : Room)) (fun a U => a = #[(.ref s_REALIZABLE), (.int (1 : Int32))] ∧ Z.Warmed39 U.vm ∧ U.heap = h0) (fun _ _ _ _ _ => True) (fun _ U o U' => ∃ v L, o = .returned v ∧ QV (.int (1 : Int32)) h0 n0 v U'.heap L ∧ FrameEnd U o U' L ({ frames := 2, cells := 0, slots := 0, locals := 25 } : Room).cells ({ frames := 2, cells := 0, slots := 0, locals := 25 } : Room).slots) := by
  obtain ⟨S_REALIZABLE, S_UNREALIZABLE, ne_REALIZABLE_UNREALIZABLE, S_SW, F_REALIZABLE_ordinal, E_REALIZABLE, A_SW, in_SW_0, at_SW_0, F_UNREALIZABLE_ordinal, E_UNREALIZABLE, in_SW_1, at_SW_1, S_VACUOUS, ne_UNREALIZABLE_VACUOUS, F_VACUOUS_ordinal, E_VACUOUS, in_SW_2, at_SW_2⟩ := id K
  refine MetFree.of_bodySF (plainFor_of_name pn0) hisR ?_
  intro p e s m args below meth c s₁ Bd hml0 hP hK
  obtain ⟨rfl, hZ, hh⟩ := hP
  have hx := Bd.exec
  have hby := Bd.bytes
  have hml : c.maxLocals = 2 := hml0
  have hown : s.vm.findClass "com/example/unruly_environment/unrulyenvironment/cli/ExitCodes" = some m.cls := findClass_of_methodNamed Bd.named
  have X0 : Stand p l e ({ frames := 2, cells := 0, slots := 0, locals := 25 } : Room) s m #[(.ref s_REALIZABLE), (.int (1 : Int32))] below meth c s₁ [] 0 0 := Stand.of_body Bd
  have e0 : s₁.heap = h0 := by rw [← hh, Bd.state]; rfl
  have N0 := Fr.nil n0
  have pre0 : ∀ t, Steps p.tables e below (s₁.setTop (mkF m 0 #[.val (.ref s_REALIZABLE), .val (.int (1 : Int32))] [])) t → Steps p.tables e below (s₁.setTop (entryFrame m #[(.ref s_REALIZABLE), (.int (1 : Int32))] 2)) t := fun t k => castTop (by first | (simp [entryFrame, mkF, argsToLocals, Value.category]; done) | rfl) k
  obtain ⟨T1, X1, e1, st1⟩ := getS X0 hx hZ hown (host := "") (hw _ (List.mem_of_getElem? (i := 8) rfl)) Via.refl e0 S_UNREALIZABLE (g := (mkF m 1 #[.val (.ref s_REALIZABLE), .val (.int (1 : Int32))] [(.ref s_REALIZABLE)])) rfl (hb hby d0_1)
  obtain ⟨_, _, ⟨T2, L2, k2, n2⟩, -, X2, ⟨Lc2, hQ2, l2, y2, z2⟩, st2⟩ := Jvm.LawKit.callS X1 hx (y := (⟨"com/example/unruly_environment/unrulyenvironment/cli/ExitCodes", "ofExplanation", "(Lcom/example/unruly_environment/unrulyenvironment/game/Verdict;)I"⟩ : MethodName)) hown (mvT hZ (hw _ (List.mem_of_getElem? (i := 10) rfl))) (mvT hZ (hw _ (List.mem_of_getElem? (i := 11) rfl))) (mvT hZ (hw _ (List.mem_of_getElem? (i := 6) rfl))) (mvT hZ (hw _ (List.mem_of_getElem? (i := 12) rfl))) (by decide) (backOf (W := 0) (r1 l Z a0 hw [] h0 n0 s_REALIZABLE s_UNREALIZABLE s_SW s_VACUOUS c_SW K) hZ (hw _ (List.mem_of_getElem? (i := 12) rfl)) (hw _ (List.mem_of_getElem? (i := 6) rfl)) (by decide) (by decide)) (g := (mkF m 14 #[.val (.ref s_REALIZABLE), .val (.int (1 : Int32))] [(.ref s_REALIZABLE)])) rfl (by rw [hml]; rfl) (argsL := [(.ref s_REALIZABLE)]) (rest := []) (lenOf pd1 rfl) rfl (by show 2 * 0 + _ ≤ _; exact Nat.le_of_eq rfl) (hb hby d0_14) (fun _ _ => ⟨rfl, e1, (by decide : 0 + 0 ≤ _), (by decide : 0 + 0 ≤ _)⟩)
  dsimp only [Pt.U, Pt.locs, Pt.cells, Pt.slots] at X2 l2 y2 z2 st2 hQ2
  subst l2 y2 z2
  obtain ⟨rfl, N2q, e2⟩ := hQ2
  have N2 := Fr.app N0 N2q
  obtain ⟨fs, hr, hrun, hended, hW, hsame⟩ := X2.leave (v := some (.int (1 : Int32))) (fun h => by rw [Bd.returns] at h; cases h)
  refine ⟨_, _, pre0 _ ?_, hrun, hended, _, _, rfl, ?_, ⟨_, rfl⟩, hW, hsame.mono (by decide) (by decide)⟩
  · show Steps p.tables e below (s₁.setTop (mkF m 0 #[.val (.ref s_REALIZABLE), .val (.int (1 : Int32))] [])) _
    refine XS.aloadN X0.here hx rfl (hb hby d0_0) rfl rfl ?_
    show Steps p.tables e below (s₁.setTop (mkF m 1 #[.val (.ref s_REALIZABLE), .val (.int (1 : Int32))] [(.ref s_REALIZABLE)])) _
    refine st1 _ ?_
    show Steps p.tables e below (T1.setTop (mkF m 4 #[.val (.ref s_REALIZABLE), .val (.int (1 : Int32))] [(.ref s_UNREALIZABLE), (.ref s_REALIZABLE)])) _
    refine Jvm.RoadKit.acmp (g := (mkF m 4 #[.val (.ref s_REALIZABLE), .val (.int (1 : Int32))] [(.ref s_UNREALIZABLE), (.ref s_REALIZABLE)])) X1 hx rfl rfl rfl (pc0 := 4) (pc' := 13) (same := false) rfl (hb hby d0_4) rfl (decide_eq_false fun q => ne_REALIZABLE_UNREALIZABLE (Value.ref.inj q)) (by decide) (by decide) ?_
    show Steps p.tables e below (T1.setTop (mkF m 13 #[.val (.ref s_REALIZABLE), .val (.int (1 : Int32))] [])) _
    refine XS.aloadN X1.here hx rfl (hb hby d0_13) rfl rfl ?_
    show Steps p.tables e below (T1.setTop (mkF m 14 #[.val (.ref s_REALIZABLE), .val (.int (1 : Int32))] [(.ref s_REALIZABLE)])) _
    refine st2 _ ?_
    show Steps p.tables e below (T2.setTop (mkF m 17 #[.val (.ref s_REALIZABLE), .val (.int (1 : Int32))] [(.int (1 : Int32))])) _
    exact retOut X2 hx (i := .ireturn) Bd.returns rfl (Or.inl ⟨rfl, Or.inl rfl, _, rfl⟩) (hb hby d0_17) hr
  · exact ⟨rfl, N2, e2⟩
set_option maxRecDepth 65536 in
set_option maxHeartbeats 40000000 in
theorem law_k0_1 (l : Launch) (Z : State) (a0 : Array Value) (hw : ∀ d ∈ tables_1, d.before a0 Z = true) (ws : List Jvm.Cond) (h0 : Heap) (n0 : Nat) (s_REALIZABLE : Addr) (s_UNREALIZABLE : Addr) (s_SW : Addr) (s_VACUOUS : Addr) (c_SW : Cell) (K : Ctx Z h0 s_REALIZABLE s_UNREALIZABLE s_SW s_VACUOUS c_SW) (p0 : Int32) (p1 : Int32) (hp0 : ((p0 &&& (2147483647 : Int32)) % (3 : Int32)) = (0 : Int32)) (hp1 : (p1 &&& (1 : Int32)) = (1 : Int32)) :
    MetFree l x (head1 (Jvm.Cond.code x code maxLocals ret :: ws) room_1) (fun a U => a = #[(.int p0), (.int p1)] ∧ Z.Warmed39 U.vm ∧ U.heap = h0) (fun _ _ _ _ _ => True) (fun _ U o U' => ∃ v L, o = .returned v ∧ QV (.int (1 : Int32)) h0 n0 v U'.heap L ∧ FrameEnd U o U' L room_1.cells room_1.slots) := by
  obtain ⟨S_REALIZABLE, S_UNREALIZABLE, ne_REALIZABLE_UNREALIZABLE, S_SW, F_REALIZABLE_ordinal, E_REALIZABLE, A_SW, in_SW_0, at_SW_0, F_UNREALIZABLE_ordinal, E_UNREALIZABLE, in_SW_1, at_SW_1, S_VACUOUS, ne_UNREALIZABLE_VACUOUS, F_VACUOUS_ordinal, E_VACUOUS, in_SW_2, at_SW_2⟩ := id K
  refine MetFree.of_bodySF (plainFor_of_name pn3) hisR ?_
  intro p e s m args below meth c s₁ Bd hml0 hP hK
  obtain ⟨rfl, hZ, hh⟩ := hP
  have hx := Bd.exec
  have hby := Bd.bytes
  have hml : c.maxLocals = 6 := hml0
  have hown : s.vm.findClass "com/example/unruly_environment/unrulyenvironment/cli/ExitCodesOfSearchPinLaw" = some m.cls := findClass_of_methodNamed Bd.named
  have X0 : Stand p l e room_1 s m #[(.int p0), (.int p1)] below meth c s₁ [] 0 0 := Stand.of_body Bd
  have e0 : s₁.heap = h0 := by rw [← hh, Bd.state]; rfl
  have N0 := Fr.nil n0
  have pre0 : ∀ t, Steps p.tables e below (s₁.setTop (mkF m 0 #[.val (.int p0), .val (.int p1), .unset, .unset, .unset, .unset] [])) t → Steps p.tables e below (s₁.setTop (entryFrame m #[(.int p0), (.int p1)] maxLocals)) t := fun t k => castTop (by first | (simp [entryFrame, mkF, argsToLocals, Value.category, maxLocals]; done) | rfl) k
  obtain ⟨T1, X1, e1, st1⟩ := getS X0 hx hZ hown (host := "") (hw _ (List.mem_of_getElem? (i := 1) rfl)) Via.refl e0 S_REALIZABLE (g := (mkF m 23 #[.val (.int p0), .val (.int p1), .val (.int (0 : Int32)), .val (.int (1 : Int32)), .unset, .unset] [])) rfl (hb hby at_23)
  obtain ⟨_, _, ⟨T2, L2, k2, n2⟩, -, X2, ⟨Lc2, hQ2, l2, y2, z2⟩, st2⟩ := Jvm.LawKit.callS X1 hx (y := (⟨"com/example/unruly_environment/unrulyenvironment/cli/ExitCodes", "ofSearch", "(Lcom/example/unruly_environment/unrulyenvironment/game/Verdict;Z)I"⟩ : MethodName)) hown (mvT hZ (hw _ (List.mem_of_getElem? (i := 4) rfl))) (mvT hZ (hw _ (List.mem_of_getElem? (i := 5) rfl))) (mvT hZ (hw _ (List.mem_of_getElem? (i := 6) rfl))) (mvT hZ (hw _ (List.mem_of_getElem? (i := 7) rfl))) (by decide) (backOf (W := 0) (r4 l Z a0 hw [] h0 n0 s_REALIZABLE s_UNREALIZABLE s_SW s_VACUOUS c_SW K) hZ (hw _ (List.mem_of_getElem? (i := 7) rfl)) (hw _ (List.mem_of_getElem? (i := 6) rfl)) (by decide) (by decide)) (g := (mkF m 71 #[.val (.int p0), .val (.int p1), .val (.int (0 : Int32)), .val (.int (1 : Int32)), .val (.ref s_REALIZABLE), .val (.int (1 : Int32))] [(.int (1 : Int32)), (.ref s_REALIZABLE)])) rfl (by rw [hml]; rfl) (argsL := [(.ref s_REALIZABLE), (.int (1 : Int32))]) (rest := []) (lenOf pd2 rfl) rfl (by show 2 * 0 + _ ≤ _; exact Nat.le_of_eq rfl) (hb hby at_71) (fun _ _ => ⟨rfl, e1, (by decide : 0 + 0 ≤ _), (by decide : 0 + 0 ≤ _)⟩)
  dsimp only [Pt.U, Pt.locs, Pt.cells, Pt.slots] at X2 l2 y2 z2 st2 hQ2
  subst l2 y2 z2
  obtain ⟨rfl, N2q, e2⟩ := hQ2
  have N2 := Fr.app N0 N2q
  obtain ⟨fs, hr, hrun, hended, hW, hsame⟩ := X2.leave (v := some (.int (1 : Int32))) (fun h => by rw [Bd.returns] at h; cases h)
  refine ⟨_, _, pre0 _ ?_, hrun, hended, _, _, rfl, ?_, ⟨_, rfl⟩, hW, hsame.mono (by decide) (by decide)⟩
  · show Steps p.tables e below (s₁.setTop (mkF m 0 #[.val (.int p0), .val (.int p1), .unset, .unset, .unset, .unset] [])) _
    refine XS.iloadN X0.here hx rfl (hb hby at_0) rfl ?_
    show Steps p.tables e below (s₁.setTop (mkF m 1 #[.val (.int p0), .val (.int p1), .unset, .unset, .unset, .unset] [(.int p0)])) _
    refine X0.ldcInt hx hown (mvT hZ (hw _ (List.mem_of_getElem? (i := 0) rfl))) (g := (mkF m 1 #[.val (.int p0), .val (.int p1), .unset, .unset, .unset, .unset] [(.int p0)])) rfl (hb hby at_1) _ ?_
    show Steps p.tables e below (s₁.setTop (mkF m 3 #[.val (.int p0), .val (.int p1), .unset, .unset, .unset, .unset] [(.int (2147483647 : Int32)), (.int p0)])) _
    refine XS.iand X0.here hx rfl (hb hby at_3) rfl ?_
    show Steps p.tables e below (s₁.setTop (mkF m 4 #[.val (.int p0), .val (.int p1), .unset, .unset, .unset, .unset] [(.int (p0 &&& (2147483647 : Int32)))])) _
    refine XS.iconst X0.here hx rfl (hb hby at_4) ?_
    show Steps p.tables e below (s₁.setTop (mkF m 5 #[.val (.int p0), .val (.int p1), .unset, .unset, .unset, .unset] [(.int (3 : Int32)), (.int (p0 &&& (2147483647 : Int32)))])) _
    refine Jvm.RoadKit.iremM X0 hx rfl (hb hby at_5) rfl (by decide) ?_
    show Steps p.tables e below (s₁.setTop (mkF m 6 #[.val (.int p0), .val (.int p1), .unset, .unset, .unset, .unset] [(.int ((p0 &&& (2147483647 : Int32)) % (3 : Int32)))])) _
    rw [hp0]
    show Steps p.tables e below (s₁.setTop (mkF m 6 #[.val (.int p0), .val (.int p1), .unset, .unset, .unset, .unset] [(.int (0 : Int32))])) _
    refine XS.istoreN X0.here hx rfl (hb hby at_6) rfl (l' := #[.val (.int p0), .val (.int p1), .val (.int (0 : Int32)), .unset, .unset, .unset]) rfl ?_
    show Steps p.tables e below (s₁.setTop (mkF m 7 #[.val (.int p0), .val (.int p1), .val (.int (0 : Int32)), .unset, .unset, .unset] [])) _
    refine XS.iloadN X0.here hx rfl (hb hby at_7) rfl ?_
    show Steps p.tables e below (s₁.setTop (mkF m 8 #[.val (.int p0), .val (.int p1), .val (.int (0 : Int32)), .unset, .unset, .unset] [(.int p1)])) _
    refine XS.iconst X0.here hx rfl (hb hby at_8) ?_
    show Steps p.tables e below (s₁.setTop (mkF m 9 #[.val (.int p0), .val (.int p1), .val (.int (0 : Int32)), .unset, .unset, .unset] [(.int (1 : Int32)), (.int p1)])) _
    refine XS.iand X0.here hx rfl (hb hby at_9) rfl ?_
    show Steps p.tables e below (s₁.setTop (mkF m 10 #[.val (.int p0), .val (.int p1), .val (.int (0 : Int32)), .unset, .unset, .unset] [(.int (p1 &&& (1 : Int32)))])) _
    rw [hp1]
    show Steps p.tables e below (s₁.setTop (mkF m 10 #[.val (.int p0), .val (.int p1), .val (.int (0 : Int32)), .unset, .unset, .unset] [(.int (1 : Int32))])) _
    refine XS.ifNo X0.here hx rfl (hb hby at_10) rfl (by decide +kernel) ?_
    show Steps p.tables e below (s₁.setTop (mkF m 13 #[.val (.int p0), .val (.int p1), .val (.int (0 : Int32)), .unset, .unset, .unset] [])) _
    refine XS.iconst X0.here hx rfl (hb hby at_13) ?_
    show Steps p.tables e below (s₁.setTop (mkF m 14 #[.val (.int p0), .val (.int p1), .val (.int (0 : Int32)), .unset, .unset, .unset] [(.int (1 : Int32))])) _
    refine XS.goto X0.here hx rfl (pc0 := 14) (pc' := 18) rfl (hb hby at_14) (by decide) (by decide) ?_
    show Steps p.tables e below (s₁.setTop (mkF m 18 #[.val (.int p0), .val (.int p1), .val (.int (0 : Int32)), .unset, .unset, .unset] [(.int (1 : Int32))])) _
    refine XS.istoreN X0.here hx rfl (hb hby at_18) rfl (l' := #[.val (.int p0), .val (.int p1), .val (.int (0 : Int32)), .val (.int (1 : Int32)), .unset, .unset]) rfl ?_
    show Steps p.tables e below (s₁.setTop (mkF m 19 #[.val (.int p0), .val (.int p1), .val (.int (0 : Int32)), .val (.int (1 : Int32)), .unset, .unset] [])) _
    refine XS.iloadN X0.here hx rfl (hb hby at_19) rfl ?_
    show Steps p.tables e below (s₁.setTop (mkF m 20 #[.val (.int p0), .val (.int p1), .val (.int (0 : Int32)), .val (.int (1 : Int32)), .unset, .unset] [(.int (0 : Int32))])) _
    refine XS.ifNo X0.here hx rfl (hb hby at_20) rfl (by decide +kernel) ?_
    show Steps p.tables e below (s₁.setTop (mkF m 23 #[.val (.int p0), .val (.int p1), .val (.int (0 : Int32)), .val (.int (1 : Int32)), .unset, .unset] [])) _
    refine st1 _ ?_
    show Steps p.tables e below (T1.setTop (mkF m 26 #[.val (.int p0), .val (.int p1), .val (.int (0 : Int32)), .val (.int (1 : Int32)), .unset, .unset] [(.ref s_REALIZABLE)])) _
    refine XS.astore X1.here hx rfl (hb hby at_26) rfl rfl (l' := #[.val (.int p0), .val (.int p1), .val (.int (0 : Int32)), .val (.int (1 : Int32)), .val (.ref s_REALIZABLE), .unset]) rfl ?_
    show Steps p.tables e below (T1.setTop (mkF m 28 #[.val (.int p0), .val (.int p1), .val (.int (0 : Int32)), .val (.int (1 : Int32)), .val (.ref s_REALIZABLE), .unset] [])) _
    refine XS.iconst X1.here hx rfl (hb hby at_28) ?_
    show Steps p.tables e below (T1.setTop (mkF m 29 #[.val (.int p0), .val (.int p1), .val (.int (0 : Int32)), .val (.int (1 : Int32)), .val (.ref s_REALIZABLE), .unset] [(.int (1 : Int32))])) _
    refine XS.istore X1.here hx rfl (hb hby at_29) rfl (l' := #[.val (.int p0), .val (.int p1), .val (.int (0 : Int32)), .val (.int (1 : Int32)), .val (.ref s_REALIZABLE), .val (.int (1 : Int32))]) rfl ?_
    show Steps p.tables e below (T1.setTop (mkF m 31 #[.val (.int p0), .val (.int p1), .val (.int (0 : Int32)), .val (.int (1 : Int32)), .val (.ref s_REALIZABLE), .val (.int (1 : Int32))] [])) _
    refine XS.goto X1.here hx rfl (pc0 := 31) (pc' := 68) rfl (hb hby at_31) (by decide) (by decide) ?_
    show Steps p.tables e below (T1.setTop (mkF m 68 #[.val (.int p0), .val (.int p1), .val (.int (0 : Int32)), .val (.int (1 : Int32)), .val (.ref s_REALIZABLE), .val (.int (1 : Int32))] [])) _
    refine XS.aload X1.here hx rfl (hb hby at_68) rfl rfl ?_
    show Steps p.tables e below (T1.setTop (mkF m 70 #[.val (.int p0), .val (.int p1), .val (.int (0 : Int32)), .val (.int (1 : Int32)), .val (.ref s_REALIZABLE), .val (.int (1 : Int32))] [(.ref s_REALIZABLE)])) _
    refine XS.iloadN X1.here hx rfl (hb hby at_70) rfl ?_
    show Steps p.tables e below (T1.setTop (mkF m 71 #[.val (.int p0), .val (.int p1), .val (.int (0 : Int32)), .val (.int (1 : Int32)), .val (.ref s_REALIZABLE), .val (.int (1 : Int32))] [(.int (1 : Int32)), (.ref s_REALIZABLE)])) _
    refine st2 _ ?_
    show Steps p.tables e below (T2.setTop (mkF m 74 #[.val (.int p0), .val (.int p1), .val (.int (0 : Int32)), .val (.int (1 : Int32)), .val (.ref s_REALIZABLE), .val (.int (1 : Int32))] [(.int (1 : Int32))])) _
    refine XS.iload X2.here hx rfl (hb hby at_74) rfl ?_
    show Steps p.tables e below (T2.setTop (mkF m 76 #[.val (.int p0), .val (.int p1), .val (.int (0 : Int32)), .val (.int (1 : Int32)), .val (.ref s_REALIZABLE), .val (.int (1 : Int32))] [(.int (1 : Int32)), (.int (1 : Int32))])) _
    refine XS.icmpNo X2.here hx rfl (hb hby at_76) rfl (by decide +kernel) ?_
    show Steps p.tables e below (T2.setTop (mkF m 79 #[.val (.int p0), .val (.int p1), .val (.int (0 : Int32)), .val (.int (1 : Int32)), .val (.ref s_REALIZABLE), .val (.int (1 : Int32))] [])) _
    refine XS.iconst X2.here hx rfl (hb hby at_79) ?_
    show Steps p.tables e below (T2.setTop (mkF m 80 #[.val (.int p0), .val (.int p1), .val (.int (0 : Int32)), .val (.int (1 : Int32)), .val (.ref s_REALIZABLE), .val (.int (1 : Int32))] [(.int (1 : Int32))])) _
    refine XS.goto X2.here hx rfl (pc0 := 80) (pc' := 84) rfl (hb hby at_80) (by decide) (by decide) ?_
    show Steps p.tables e below (T2.setTop (mkF m 84 #[.val (.int p0), .val (.int p1), .val (.int (0 : Int32)), .val (.int (1 : Int32)), .val (.ref s_REALIZABLE), .val (.int (1 : Int32))] [(.int (1 : Int32))])) _
    exact retN X2 hx (t := .boolean) Bd.returns (by simp) (hb hby at_84) hr
  · exact ⟨rfl, N2, e2⟩
set_option maxRecDepth 65536 in
set_option maxHeartbeats 40000000 in
theorem r6 (l : Launch) (Z : State) (a0 : Array Value) (hw : ∀ d ∈ tables_1, d.before a0 Z = true) (ws : List Jvm.Cond) (h0 : Heap) (n0 : Nat) (s_REALIZABLE : Addr) (s_UNREALIZABLE : Addr) (s_SW : Addr) (s_VACUOUS : Addr) (c_SW : Cell) (K : Ctx Z h0 s_REALIZABLE s_UNREALIZABLE s_SW s_VACUOUS c_SW) :
    MetFree l (⟨"com/example/unruly_environment/unrulyenvironment/cli/ExitCodes", "ofSearch", "(Lcom/example/unruly_environment/unrulyenvironment/game/Verdict;Z)I"⟩ : MethodName) (head1 (Jvm.Cond.code (⟨"com/example/unruly_environment/unrulyenvironment/cli/ExitCodes", "ofSearch", "(Lcom/example/unruly_environment/unrulyenvironment/game/Verdict;Z)I"⟩ : MethodName) prog_29_method_4_code 2 (some .int) :: ws) ({ frames := 0, cells := 0, slots := 0, locals := 0 } : Room)) (fun a U => a = #[(.ref s_UNREALIZABLE), (.int (0 : Int32))] ∧ Z.Warmed39 U.vm ∧ U.heap = h0) (fun _ _ _ _ _ => True) (fun _ U o U' => ∃ v L, o = .returned v ∧ QV (.int (1 : Int32)) h0 n0 v U'.heap L ∧ FrameEnd U o U' L ({ frames := 0, cells := 0, slots := 0, locals := 0 } : Room).cells ({ frames := 0, cells := 0, slots := 0, locals := 0 } : Room).slots) := by
  obtain ⟨S_REALIZABLE, S_UNREALIZABLE, ne_REALIZABLE_UNREALIZABLE, S_SW, F_REALIZABLE_ordinal, E_REALIZABLE, A_SW, in_SW_0, at_SW_0, F_UNREALIZABLE_ordinal, E_UNREALIZABLE, in_SW_1, at_SW_1, S_VACUOUS, ne_UNREALIZABLE_VACUOUS, F_VACUOUS_ordinal, E_VACUOUS, in_SW_2, at_SW_2⟩ := id K
  refine MetFree.of_bodySF (plainFor_of_name pn0) hisR ?_
  intro p e s m args below meth c s₁ Bd hml0 hP hK
  obtain ⟨rfl, hZ, hh⟩ := hP
  have hx := Bd.exec
  have hby := Bd.bytes
  have hml : c.maxLocals = 2 := hml0
  have hown : s.vm.findClass "com/example/unruly_environment/unrulyenvironment/cli/ExitCodes" = some m.cls := findClass_of_methodNamed Bd.named
  have X0 : Stand p l e ({ frames := 0, cells := 0, slots := 0, locals := 0 } : Room) s m #[(.ref s_UNREALIZABLE), (.int (0 : Int32))] below meth c s₁ [] 0 0 := Stand.of_body Bd
  have e0 : s₁.heap = h0 := by rw [← hh, Bd.state]; rfl
  have N0 := Fr.nil n0
  have pre0 : ∀ t, Steps p.tables e below (s₁.setTop (mkF m 0 #[.val (.ref s_UNREALIZABLE), .val (.int (0 : Int32))] [])) t → Steps p.tables e below (s₁.setTop (entryFrame m #[(.ref s_UNREALIZABLE), (.int (0 : Int32))] 2)) t := fun t k => castTop (by first | (simp [entryFrame, mkF, argsToLocals, Value.category]; done) | rfl) k
  obtain ⟨T1, X1, e1, st1⟩ := getS X0 hx hZ hown (host := "") (hw _ (List.mem_of_getElem? (i := 8) rfl)) Via.refl e0 S_UNREALIZABLE (g := (mkF m 1 #[.val (.ref s_UNREALIZABLE), .val (.int (0 : Int32))] [(.ref s_UNREALIZABLE)])) rfl (hb hby d0_1)
  obtain ⟨fs, hr, hrun, hended, hW, hsame⟩ := X1.leave (v := some (.int (1 : Int32))) (fun h => by rw [Bd.returns] at h; cases h)
  refine ⟨_, _, pre0 _ ?_, hrun, hended, _, _, rfl, ?_, ⟨_, rfl⟩, hW, hsame.mono (by decide) (by decide)⟩
  · show Steps p.tables e below (s₁.setTop (mkF m 0 #[.val (.ref s_UNREALIZABLE), .val (.int (0 : Int32))] [])) _
    refine XS.aloadN X0.here hx rfl (hb hby d0_0) rfl rfl ?_
    show Steps p.tables e below (s₁.setTop (mkF m 1 #[.val (.ref s_UNREALIZABLE), .val (.int (0 : Int32))] [(.ref s_UNREALIZABLE)])) _
    refine st1 _ ?_
    show Steps p.tables e below (T1.setTop (mkF m 4 #[.val (.ref s_UNREALIZABLE), .val (.int (0 : Int32))] [(.ref s_UNREALIZABLE), (.ref s_UNREALIZABLE)])) _
    refine Jvm.RoadKit.acmp (g := (mkF m 4 #[.val (.ref s_UNREALIZABLE), .val (.int (0 : Int32))] [(.ref s_UNREALIZABLE), (.ref s_UNREALIZABLE)])) X1 hx rfl rfl rfl (pc0 := 4) (pc' := 7) (same := true) rfl (hb hby d0_4) rfl (decide_eq_true rfl) (by decide) (by decide) ?_
    show Steps p.tables e below (T1.setTop (mkF m 7 #[.val (.ref s_UNREALIZABLE), .val (.int (0 : Int32))] [])) _
    refine XS.iloadN X1.here hx rfl (hb hby d0_7) rfl ?_
    show Steps p.tables e below (T1.setTop (mkF m 8 #[.val (.ref s_UNREALIZABLE), .val (.int (0 : Int32))] [(.int (0 : Int32))])) _
    refine XS.ifNo X1.here hx rfl (hb hby d0_8) rfl (by decide +kernel) ?_
    show Steps p.tables e below (T1.setTop (mkF m 11 #[.val (.ref s_UNREALIZABLE), .val (.int (0 : Int32))] [])) _
    refine XS.iconst X1.here hx rfl (hb hby d0_11) ?_
    show Steps p.tables e below (T1.setTop (mkF m 12 #[.val (.ref s_UNREALIZABLE), .val (.int (0 : Int32))] [(.int (1 : Int32))])) _
    exact retOut X1 hx (i := .ireturn) Bd.returns rfl (Or.inl ⟨rfl, Or.inl rfl, _, rfl⟩) (hb hby d0_12) hr
  · exact ⟨rfl, N0, e1⟩
set_option maxRecDepth 65536 in
set_option maxHeartbeats 40000000 in
theorem law_k1_0 (l : Launch) (Z : State) (a0 : Array Value) (hw : ∀ d ∈ tables_1, d.before a0 Z = true) (ws : List Jvm.Cond) (h0 : Heap) (n0 : Nat) (s_REALIZABLE : Addr) (s_UNREALIZABLE : Addr) (s_SW : Addr) (s_VACUOUS : Addr) (c_SW : Cell) (K : Ctx Z h0 s_REALIZABLE s_UNREALIZABLE s_SW s_VACUOUS c_SW) (p0 : Int32) (p1 : Int32) (hp0 : ((p0 &&& (2147483647 : Int32)) % (3 : Int32)) = (1 : Int32)) (hp1 : (p1 &&& (1 : Int32)) = (0 : Int32)) :
    MetFree l x (head1 (Jvm.Cond.code x code maxLocals ret :: ws) room_1) (fun a U => a = #[(.int p0), (.int p1)] ∧ Z.Warmed39 U.vm ∧ U.heap = h0) (fun _ _ _ _ _ => True) (fun _ U o U' => ∃ v L, o = .returned v ∧ QV (.int (1 : Int32)) h0 n0 v U'.heap L ∧ FrameEnd U o U' L room_1.cells room_1.slots) := by
  obtain ⟨S_REALIZABLE, S_UNREALIZABLE, ne_REALIZABLE_UNREALIZABLE, S_SW, F_REALIZABLE_ordinal, E_REALIZABLE, A_SW, in_SW_0, at_SW_0, F_UNREALIZABLE_ordinal, E_UNREALIZABLE, in_SW_1, at_SW_1, S_VACUOUS, ne_UNREALIZABLE_VACUOUS, F_VACUOUS_ordinal, E_VACUOUS, in_SW_2, at_SW_2⟩ := id K
  refine MetFree.of_bodySF (plainFor_of_name pn3) hisR ?_
  intro p e s m args below meth c s₁ Bd hml0 hP hK
  obtain ⟨rfl, hZ, hh⟩ := hP
  have hx := Bd.exec
  have hby := Bd.bytes
  have hml : c.maxLocals = 6 := hml0
  have hown : s.vm.findClass "com/example/unruly_environment/unrulyenvironment/cli/ExitCodesOfSearchPinLaw" = some m.cls := findClass_of_methodNamed Bd.named
  have X0 : Stand p l e room_1 s m #[(.int p0), (.int p1)] below meth c s₁ [] 0 0 := Stand.of_body Bd
  have e0 : s₁.heap = h0 := by rw [← hh, Bd.state]; rfl
  have N0 := Fr.nil n0
  have pre0 : ∀ t, Steps p.tables e below (s₁.setTop (mkF m 0 #[.val (.int p0), .val (.int p1), .unset, .unset, .unset, .unset] [])) t → Steps p.tables e below (s₁.setTop (entryFrame m #[(.int p0), (.int p1)] maxLocals)) t := fun t k => castTop (by first | (simp [entryFrame, mkF, argsToLocals, Value.category, maxLocals]; done) | rfl) k
  obtain ⟨T1, X1, e1, st1⟩ := getS X0 hx hZ hown (host := "") (hw _ (List.mem_of_getElem? (i := 27) rfl)) Via.refl e0 S_UNREALIZABLE (g := (mkF m 39 #[.val (.int p0), .val (.int p1), .val (.int (1 : Int32)), .val (.int (0 : Int32)), .unset, .unset] [])) rfl (hb hby at_39)
  obtain ⟨_, _, ⟨T2, L2, k2, n2⟩, -, X2, ⟨Lc2, hQ2, l2, y2, z2⟩, st2⟩ := Jvm.LawKit.callS X1 hx (y := (⟨"com/example/unruly_environment/unrulyenvironment/cli/ExitCodes", "ofSearch", "(Lcom/example/unruly_environment/unrulyenvironment/game/Verdict;Z)I"⟩ : MethodName)) hown (mvT hZ (hw _ (List.mem_of_getElem? (i := 4) rfl))) (mvT hZ (hw _ (List.mem_of_getElem? (i := 5) rfl))) (mvT hZ (hw _ (List.mem_of_getElem? (i := 6) rfl))) (mvT hZ (hw _ (List.mem_of_getElem? (i := 7) rfl))) (by decide) (backOf (W := 0) (r6 l Z a0 hw [] h0 n0 s_REALIZABLE s_UNREALIZABLE s_SW s_VACUOUS c_SW K) hZ (hw _ (List.mem_of_getElem? (i := 7) rfl)) (hw _ (List.mem_of_getElem? (i := 6) rfl)) (by decide) (by decide)) (g := (mkF m 71 #[.val (.int p0), .val (.int p1), .val (.int (1 : Int32)), .val (.int (0 : Int32)), .val (.ref s_UNREALIZABLE), .val (.int (1 : Int32))] [(.int (0 : Int32)), (.ref s_UNREALIZABLE)])) rfl (by rw [hml]; rfl) (argsL := [(.ref s_UNREALIZABLE), (.int (0 : Int32))]) (rest := []) (lenOf pd2 rfl) rfl (by show 2 * 0 + _ ≤ _; exact Nat.le_of_eq rfl) (hb hby at_71) (fun _ _ => ⟨rfl, e1, (by decide : 0 + 0 ≤ _), (by decide : 0 + 0 ≤ _)⟩)
  dsimp only [Pt.U, Pt.locs, Pt.cells, Pt.slots] at X2 l2 y2 z2 st2 hQ2
  subst l2 y2 z2
  obtain ⟨rfl, N2q, e2⟩ := hQ2
  have N2 := Fr.app N0 N2q
  obtain ⟨fs, hr, hrun, hended, hW, hsame⟩ := X2.leave (v := some (.int (1 : Int32))) (fun h => by rw [Bd.returns] at h; cases h)
  refine ⟨_, _, pre0 _ ?_, hrun, hended, _, _, rfl, ?_, ⟨_, rfl⟩, hW, hsame.mono (by decide) (by decide)⟩
  · show Steps p.tables e below (s₁.setTop (mkF m 0 #[.val (.int p0), .val (.int p1), .unset, .unset, .unset, .unset] [])) _
    refine XS.iloadN X0.here hx rfl (hb hby at_0) rfl ?_
    show Steps p.tables e below (s₁.setTop (mkF m 1 #[.val (.int p0), .val (.int p1), .unset, .unset, .unset, .unset] [(.int p0)])) _
    refine X0.ldcInt hx hown (mvT hZ (hw _ (List.mem_of_getElem? (i := 0) rfl))) (g := (mkF m 1 #[.val (.int p0), .val (.int p1), .unset, .unset, .unset, .unset] [(.int p0)])) rfl (hb hby at_1) _ ?_
    show Steps p.tables e below (s₁.setTop (mkF m 3 #[.val (.int p0), .val (.int p1), .unset, .unset, .unset, .unset] [(.int (2147483647 : Int32)), (.int p0)])) _
    refine XS.iand X0.here hx rfl (hb hby at_3) rfl ?_
    show Steps p.tables e below (s₁.setTop (mkF m 4 #[.val (.int p0), .val (.int p1), .unset, .unset, .unset, .unset] [(.int (p0 &&& (2147483647 : Int32)))])) _
    refine XS.iconst X0.here hx rfl (hb hby at_4) ?_
    show Steps p.tables e below (s₁.setTop (mkF m 5 #[.val (.int p0), .val (.int p1), .unset, .unset, .unset, .unset] [(.int (3 : Int32)), (.int (p0 &&& (2147483647 : Int32)))])) _
    refine Jvm.RoadKit.iremM X0 hx rfl (hb hby at_5) rfl (by decide) ?_
    show Steps p.tables e below (s₁.setTop (mkF m 6 #[.val (.int p0), .val (.int p1), .unset, .unset, .unset, .unset] [(.int ((p0 &&& (2147483647 : Int32)) % (3 : Int32)))])) _
    rw [hp0]
    show Steps p.tables e below (s₁.setTop (mkF m 6 #[.val (.int p0), .val (.int p1), .unset, .unset, .unset, .unset] [(.int (1 : Int32))])) _
    refine XS.istoreN X0.here hx rfl (hb hby at_6) rfl (l' := #[.val (.int p0), .val (.int p1), .val (.int (1 : Int32)), .unset, .unset, .unset]) rfl ?_
    show Steps p.tables e below (s₁.setTop (mkF m 7 #[.val (.int p0), .val (.int p1), .val (.int (1 : Int32)), .unset, .unset, .unset] [])) _
    refine XS.iloadN X0.here hx rfl (hb hby at_7) rfl ?_
    show Steps p.tables e below (s₁.setTop (mkF m 8 #[.val (.int p0), .val (.int p1), .val (.int (1 : Int32)), .unset, .unset, .unset] [(.int p1)])) _
    refine XS.iconst X0.here hx rfl (hb hby at_8) ?_
    show Steps p.tables e below (s₁.setTop (mkF m 9 #[.val (.int p0), .val (.int p1), .val (.int (1 : Int32)), .unset, .unset, .unset] [(.int (1 : Int32)), (.int p1)])) _
    refine XS.iand X0.here hx rfl (hb hby at_9) rfl ?_
    show Steps p.tables e below (s₁.setTop (mkF m 10 #[.val (.int p0), .val (.int p1), .val (.int (1 : Int32)), .unset, .unset, .unset] [(.int (p1 &&& (1 : Int32)))])) _
    rw [hp1]
    show Steps p.tables e below (s₁.setTop (mkF m 10 #[.val (.int p0), .val (.int p1), .val (.int (1 : Int32)), .unset, .unset, .unset] [(.int (0 : Int32))])) _
    refine XS.ifYes X0.here hx rfl (pc0 := 10) (pc' := 17) rfl (hb hby at_10) rfl (by decide +kernel) (by decide) (by decide) ?_
    show Steps p.tables e below (s₁.setTop (mkF m 17 #[.val (.int p0), .val (.int p1), .val (.int (1 : Int32)), .unset, .unset, .unset] [])) _
    refine XS.iconst X0.here hx rfl (hb hby at_17) ?_
    show Steps p.tables e below (s₁.setTop (mkF m 18 #[.val (.int p0), .val (.int p1), .val (.int (1 : Int32)), .unset, .unset, .unset] [(.int (0 : Int32))])) _
    refine XS.istoreN X0.here hx rfl (hb hby at_18) rfl (l' := #[.val (.int p0), .val (.int p1), .val (.int (1 : Int32)), .val (.int (0 : Int32)), .unset, .unset]) rfl ?_
    show Steps p.tables e below (s₁.setTop (mkF m 19 #[.val (.int p0), .val (.int p1), .val (.int (1 : Int32)), .val (.int (0 : Int32)), .unset, .unset] [])) _
    refine XS.iloadN X0.here hx rfl (hb hby at_19) rfl ?_
    show Steps p.tables e below (s₁.setTop (mkF m 20 #[.val (.int p0), .val (.int p1), .val (.int (1 : Int32)), .val (.int (0 : Int32)), .unset, .unset] [(.int (1 : Int32))])) _
    refine XS.ifYes X0.here hx rfl (pc0 := 20) (pc' := 34) rfl (hb hby at_20) rfl (by decide +kernel) (by decide) (by decide) ?_
    show Steps p.tables e below (s₁.setTop (mkF m 34 #[.val (.int p0), .val (.int p1), .val (.int (1 : Int32)), .val (.int (0 : Int32)), .unset, .unset] [])) _
    refine XS.iloadN X0.here hx rfl (hb hby at_34) rfl ?_
    show Steps p.tables e below (s₁.setTop (mkF m 35 #[.val (.int p0), .val (.int p1), .val (.int (1 : Int32)), .val (.int (0 : Int32)), .unset, .unset] [(.int (1 : Int32))])) _
    refine XS.iconst X0.here hx rfl (hb hby at_35) ?_
    show Steps p.tables e below (s₁.setTop (mkF m 36 #[.val (.int p0), .val (.int p1), .val (.int (1 : Int32)), .val (.int (0 : Int32)), .unset, .unset] [(.int (1 : Int32)), (.int (1 : Int32))])) _
    refine XS.icmpNo X0.here hx rfl (hb hby at_36) rfl (by decide +kernel) ?_
    show Steps p.tables e below (s₁.setTop (mkF m 39 #[.val (.int p0), .val (.int p1), .val (.int (1 : Int32)), .val (.int (0 : Int32)), .unset, .unset] [])) _
    refine st1 _ ?_
    show Steps p.tables e below (T1.setTop (mkF m 42 #[.val (.int p0), .val (.int p1), .val (.int (1 : Int32)), .val (.int (0 : Int32)), .unset, .unset] [(.ref s_UNREALIZABLE)])) _
    refine XS.astore X1.here hx rfl (hb hby at_42) rfl rfl (l' := #[.val (.int p0), .val (.int p1), .val (.int (1 : Int32)), .val (.int (0 : Int32)), .val (.ref s_UNREALIZABLE), .unset]) rfl ?_
    show Steps p.tables e below (T1.setTop (mkF m 44 #[.val (.int p0), .val (.int p1), .val (.int (1 : Int32)), .val (.int (0 : Int32)), .val (.ref s_UNREALIZABLE), .unset] [])) _
    refine XS.iloadN X1.here hx rfl (hb hby at_44) rfl ?_
    show Steps p.tables e below (T1.setTop (mkF m 45 #[.val (.int p0), .val (.int p1), .val (.int (1 : Int32)), .val (.int (0 : Int32)), .val (.ref s_UNREALIZABLE), .unset] [(.int (0 : Int32))])) _
    refine XS.ifYes X1.here hx rfl (pc0 := 45) (pc' := 54) rfl (hb hby at_45) rfl (by decide +kernel) (by decide) (by decide) ?_
    show Steps p.tables e below (T1.setTop (mkF m 54 #[.val (.int p0), .val (.int p1), .val (.int (1 : Int32)), .val (.int (0 : Int32)), .val (.ref s_UNREALIZABLE), .unset] [])) _
    refine XS.iconst X1.here hx rfl (hb hby at_54) ?_
    show Steps p.tables e below (T1.setTop (mkF m 55 #[.val (.int p0), .val (.int p1), .val (.int (1 : Int32)), .val (.int (0 : Int32)), .val (.ref s_UNREALIZABLE), .unset] [(.int (1 : Int32))])) _
    refine XS.istore X1.here hx rfl (hb hby at_55) rfl (l' := #[.val (.int p0), .val (.int p1), .val (.int (1 : Int32)), .val (.int (0 : Int32)), .val (.ref s_UNREALIZABLE), .val (.int (1 : Int32))]) rfl ?_
    show Steps p.tables e below (T1.setTop (mkF m 57 #[.val (.int p0), .val (.int p1), .val (.int (1 : Int32)), .val (.int (0 : Int32)), .val (.ref s_UNREALIZABLE), .val (.int (1 : Int32))] [])) _
    refine XS.goto X1.here hx rfl (pc0 := 57) (pc' := 68) rfl (hb hby at_57) (by decide) (by decide) ?_
    show Steps p.tables e below (T1.setTop (mkF m 68 #[.val (.int p0), .val (.int p1), .val (.int (1 : Int32)), .val (.int (0 : Int32)), .val (.ref s_UNREALIZABLE), .val (.int (1 : Int32))] [])) _
    refine XS.aload X1.here hx rfl (hb hby at_68) rfl rfl ?_
    show Steps p.tables e below (T1.setTop (mkF m 70 #[.val (.int p0), .val (.int p1), .val (.int (1 : Int32)), .val (.int (0 : Int32)), .val (.ref s_UNREALIZABLE), .val (.int (1 : Int32))] [(.ref s_UNREALIZABLE)])) _
    refine XS.iloadN X1.here hx rfl (hb hby at_70) rfl ?_
    show Steps p.tables e below (T1.setTop (mkF m 71 #[.val (.int p0), .val (.int p1), .val (.int (1 : Int32)), .val (.int (0 : Int32)), .val (.ref s_UNREALIZABLE), .val (.int (1 : Int32))] [(.int (0 : Int32)), (.ref s_UNREALIZABLE)])) _
    refine st2 _ ?_
    show Steps p.tables e below (T2.setTop (mkF m 74 #[.val (.int p0), .val (.int p1), .val (.int (1 : Int32)), .val (.int (0 : Int32)), .val (.ref s_UNREALIZABLE), .val (.int (1 : Int32))] [(.int (1 : Int32))])) _
    refine XS.iload X2.here hx rfl (hb hby at_74) rfl ?_
    show Steps p.tables e below (T2.setTop (mkF m 76 #[.val (.int p0), .val (.int p1), .val (.int (1 : Int32)), .val (.int (0 : Int32)), .val (.ref s_UNREALIZABLE), .val (.int (1 : Int32))] [(.int (1 : Int32)), (.int (1 : Int32))])) _
    refine XS.icmpNo X2.here hx rfl (hb hby at_76) rfl (by decide +kernel) ?_
    show Steps p.tables e below (T2.setTop (mkF m 79 #[.val (.int p0), .val (.int p1), .val (.int (1 : Int32)), .val (.int (0 : Int32)), .val (.ref s_UNREALIZABLE), .val (.int (1 : Int32))] [])) _
    refine XS.iconst X2.here hx rfl (hb hby at_79) ?_
    show Steps p.tables e below (T2.setTop (mkF m 80 #[.val (.int p0), .val (.int p1), .val (.int (1 : Int32)), .val (.int (0 : Int32)), .val (.ref s_UNREALIZABLE), .val (.int (1 : Int32))] [(.int (1 : Int32))])) _
    refine XS.goto X2.here hx rfl (pc0 := 80) (pc' := 84) rfl (hb hby at_80) (by decide) (by decide) ?_
    show Steps p.tables e below (T2.setTop (mkF m 84 #[.val (.int p0), .val (.int p1), .val (.int (1 : Int32)), .val (.int (0 : Int32)), .val (.ref s_UNREALIZABLE), .val (.int (1 : Int32))] [(.int (1 : Int32))])) _
    exact retN X2 hx (t := .boolean) Bd.returns (by simp) (hb hby at_84) hr
  · exact ⟨rfl, N2, e2⟩
set_option maxRecDepth 65536 in
set_option maxHeartbeats 40000000 in
theorem r8 (l : Launch) (Z : State) (a0 : Array Value) (hw : ∀ d ∈ tables_1, d.before a0 Z = true) (ws : List Jvm.Cond) (h0 : Heap) (n0 : Nat) (s_REALIZABLE : Addr) (s_UNREALIZABLE : Addr) (s_SW : Addr) (s_VACUOUS : Addr) (c_SW : Cell) (K : Ctx Z h0 s_REALIZABLE s_UNREALIZABLE s_SW s_VACUOUS c_SW) :
    MetFree l (⟨"java/lang/Enum", "ordinal", "()I"⟩ : MethodName) (head1 (Jvm.Cond.code (⟨"java/lang/Enum", "ordinal", "()I"⟩ : MethodName) jdk_37_method_2_code 1 (some .int) :: ws) ({ frames := 0, cells := 0, slots := 0, locals := 0 } : Room)) (fun a U => a = #[(.ref s_UNREALIZABLE)] ∧ Z.Warmed39 U.vm ∧ U.heap = h0) (fun _ _ _ _ _ => True) (fun _ U o U' => ∃ v L, o = .returned v ∧ QV (.int (1 : Int32)) h0 n0 v U'.heap L ∧ FrameEnd U o U' L ({ frames := 0, cells := 0, slots := 0, locals := 0 } : Room).cells ({ frames := 0, cells := 0, slots := 0, locals := 0 } : Room).slots) := by
  obtain ⟨S_REALIZABLE, S_UNREALIZABLE, ne_REALIZABLE_UNREALIZABLE, S_SW, F_REALIZABLE_ordinal, E_REALIZABLE, A_SW, in_SW_0, at_SW_0, F_UNREALIZABLE_ordinal, E_UNREALIZABLE, in_SW_1, at_SW_1, S_VACUOUS, ne_UNREALIZABLE_VACUOUS, F_VACUOUS_ordinal, E_VACUOUS, in_SW_2, at_SW_2⟩ := id K
  refine MetFree.of_bodySF (plainFor_of_name pn2) hisR ?_
  intro p e s m args below meth c s₁ Bd hml0 hP hK
  obtain ⟨rfl, hZ, hh⟩ := hP
  have hx := Bd.exec
  have hby := Bd.bytes
  have hml : c.maxLocals = 1 := hml0
  have hown : s.vm.findClass "java/lang/Enum" = some m.cls := findClass_of_methodNamed Bd.named
  have X0 : Stand p l e ({ frames := 0, cells := 0, slots := 0, locals := 0 } : Room) s m #[(.ref s_UNREALIZABLE)] below meth c s₁ [] 0 0 := Stand.of_body Bd
  have e0 : s₁.heap = h0 := by rw [← hh, Bd.state]; rfl
  have N0 := Fr.nil n0
  have pre0 : ∀ t, Steps p.tables e below (s₁.setTop (mkF m 0 #[.val (.ref s_UNREALIZABLE)] [])) t → Steps p.tables e below (s₁.setTop (entryFrame m #[(.ref s_UNREALIZABLE)] 1)) t := fun t k => castTop (by first | (simp [entryFrame, mkF, argsToLocals, Value.category]; done) | rfl) k
  obtain ⟨T1, X1, e1, st1⟩ := getF X0 hx hZ hown (host := "") (Or.inl (hw _ (List.mem_of_getElem? (i := 23) rfl))) Via.refl e0 F_UNREALIZABLE_ordinal (g := (mkF m 1 #[.val (.ref s_UNREALIZABLE)] [(.ref s_UNREALIZABLE)])) rfl rfl (hb hby d2_1)
  obtain ⟨fs, hr, hrun, hended, hW, hsame⟩ := X1.leave (v := some (.int (1 : Int32))) (fun h => by rw [Bd.returns] at h; cases h)
  refine ⟨_, _, pre0 _ ?_, hrun, hended, _, _, rfl, ?_, ⟨_, rfl⟩, hW, hsame.mono (by decide) (by decide)⟩
  · show Steps p.tables e below (s₁.setTop (mkF m 0 #[.val (.ref s_UNREALIZABLE)] [])) _
    refine XS.aloadN X0.here hx rfl (hb hby d2_0) rfl rfl ?_
    show Steps p.tables e below (s₁.setTop (mkF m 1 #[.val (.ref s_UNREALIZABLE)] [(.ref s_UNREALIZABLE)])) _
    refine st1 _ ?_
    show Steps p.tables e below (T1.setTop (mkF m 4 #[.val (.ref s_UNREALIZABLE)] [(.int (1 : Int32))])) _
    exact retOut X1 hx (i := .ireturn) Bd.returns rfl (Or.inl ⟨rfl, Or.inl rfl, _, rfl⟩) (hb hby d2_4) hr
  · exact ⟨rfl, N0, e1⟩
set_option maxRecDepth 65536 in
set_option maxHeartbeats 40000000 in
theorem r9 (l : Launch) (Z : State) (a0 : Array Value) (hw : ∀ d ∈ tables_1, d.before a0 Z = true) (ws : List Jvm.Cond) (h0 : Heap) (n0 : Nat) (s_REALIZABLE : Addr) (s_UNREALIZABLE : Addr) (s_SW : Addr) (s_VACUOUS : Addr) (c_SW : Cell) (K : Ctx Z h0 s_REALIZABLE s_UNREALIZABLE s_SW s_VACUOUS c_SW) :
    MetFree l (⟨"com/example/unruly_environment/unrulyenvironment/cli/ExitCodes", "ofExplanation", "(Lcom/example/unruly_environment/unrulyenvironment/game/Verdict;)I"⟩ : MethodName) (head1 (Jvm.Cond.code (⟨"com/example/unruly_environment/unrulyenvironment/cli/ExitCodes", "ofExplanation", "(Lcom/example/unruly_environment/unrulyenvironment/game/Verdict;)I"⟩ : MethodName) prog_29_method_3_code 1 (some .int) :: ws) ({ frames := 1, cells := 0, slots := 0, locals := 13 } : Room)) (fun a U => a = #[(.ref s_UNREALIZABLE)] ∧ Z.Warmed39 U.vm ∧ U.heap = h0) (fun _ _ _ _ _ => True) (fun _ U o U' => ∃ v L, o = .returned v ∧ QV (.int (0 : Int32)) h0 n0 v U'.heap L ∧ FrameEnd U o U' L ({ frames := 1, cells := 0, slots := 0, locals := 13 } : Room).cells ({ frames := 1, cells := 0, slots := 0, locals := 13 } : Room).slots) := by
  obtain ⟨S_REALIZABLE, S_UNREALIZABLE, ne_REALIZABLE_UNREALIZABLE, S_SW, F_REALIZABLE_ordinal, E_REALIZABLE, A_SW, in_SW_0, at_SW_0, F_UNREALIZABLE_ordinal, E_UNREALIZABLE, in_SW_1, at_SW_1, S_VACUOUS, ne_UNREALIZABLE_VACUOUS, F_VACUOUS_ordinal, E_VACUOUS, in_SW_2, at_SW_2⟩ := id K
  refine MetFree.of_bodySF (plainFor_of_name pn1) hisR ?_
  intro p e s m args below meth c s₁ Bd hml0 hP hK
  obtain ⟨rfl, hZ, hh⟩ := hP
  have hx := Bd.exec
  have hby := Bd.bytes
  have hml : c.maxLocals = 1 := hml0
  have hown : s.vm.findClass "com/example/unruly_environment/unrulyenvironment/cli/ExitCodes" = some m.cls := findClass_of_methodNamed Bd.named
  have X0 : Stand p l e ({ frames := 1, cells := 0, slots := 0, locals := 13 } : Room) s m #[(.ref s_UNREALIZABLE)] below meth c s₁ [] 0 0 := Stand.of_body Bd
  have e0 : s₁.heap = h0 := by rw [← hh, Bd.state]; rfl
  have N0 := Fr.nil n0
  have pre0 : ∀ t, Steps p.tables e below (s₁.setTop (mkF m 0 #[.val (.ref s_UNREALIZABLE)] [])) t → Steps p.tables e below (s₁.setTop (entryFrame m #[(.ref s_UNREALIZABLE)] 1)) t := fun t k => castTop (by first | (simp [entryFrame, mkF, argsToLocals, Value.category]; done) | rfl) k
  obtain ⟨T1, X1, e1, st1⟩ := getS X0 hx hZ hown (host := "") (hw _ (List.mem_of_getElem? (i := 13) rfl)) Via.refl e0 S_SW (g := (mkF m 0 #[.val (.ref s_UNREALIZABLE)] [])) rfl (hb hby d1_0)
  obtain ⟨cq2, kq2, q2a, q2b, q2c⟩ := isOf hZ e1 E_UNREALIZABLE
  obtain ⟨_, _, ⟨T2, L2, k2, n2⟩, -, X2, ⟨Lc2, hQ2, l2, y2, z2⟩, st2⟩ := X1.virtualBackUp hx (owner := "java/lang/Enum") (x := (⟨"com/example/unruly_environment/unrulyenvironment/game/Verdict", "ordinal", "()I"⟩ : MethodName)) (y := (⟨"java/lang/Enum", "ordinal", "()I"⟩ : MethodName)) hown (mvT hZ (hw _ (List.mem_of_getElem? (i := 16) rfl))) (mvT hZ (hw _ (List.mem_of_getElem? (i := 17) rfl))) (mvT hZ (hw _ (List.mem_of_getElem? (i := 18) rfl))) (by decide) (mvT hZ (hw _ (List.mem_of_getElem? (i := 20) rfl))) (mvT hZ (hw _ (List.mem_of_getElem? (i := 19) rfl))) (backOf (W := 1) (r8 l Z a0 hw [] h0 n0 s_REALIZABLE s_UNREALIZABLE s_SW s_VACUOUS c_SW K) hZ (hw _ (List.mem_of_getElem? (i := 22) rfl)) (hw _ (List.mem_of_getElem? (i := 21) rfl)) (by decide) (by decide)) q2a q2c (g := (mkF m 4 #[.val (.ref s_UNREALIZABLE)] [(.ref s_UNREALIZABLE), (.ref s_SW)])) rfl (by rw [hml]; rfl) (Steps.refl _) (argsL := []) (rest := [(.ref s_SW)]) (lenOf pd0 rfl) rfl (by show 2 * 0 + _ ≤ _; exact Nat.le_of_eq rfl) (hb hby d1_4) (fun _ _ => ⟨rfl, e1, (by decide : 0 + 0 ≤ _), (by decide : 0 + 0 ≤ _)⟩)
  dsimp only [Pt.U, Pt.locs, Pt.cells, Pt.slots] at X2 l2 y2 z2 st2 hQ2
  subst l2 y2 z2
  obtain ⟨rfl, N2q, e2⟩ := hQ2
  have N2 := Fr.app N0 N2q
  obtain ⟨fs, hr, hrun, hended, hW, hsame⟩ := X2.leave (v := some (.int (0 : Int32))) (fun h => by rw [Bd.returns] at h; cases h)
  refine ⟨_, _, pre0 _ ?_, hrun, hended, _, _, rfl, ?_, ⟨_, rfl⟩, hW, hsame.mono (by decide) (by decide)⟩
  · show Steps p.tables e below (s₁.setTop (mkF m 0 #[.val (.ref s_UNREALIZABLE)] [])) _
    refine st1 _ ?_
    show Steps p.tables e below (T1.setTop (mkF m 3 #[.val (.ref s_UNREALIZABLE)] [(.ref s_SW)])) _
    refine XS.aloadN X1.here hx rfl (hb hby d1_3) rfl rfl ?_
    show Steps p.tables e below (T1.setTop (mkF m 4 #[.val (.ref s_UNREALIZABLE)] [(.ref s_UNREALIZABLE), (.ref s_SW)])) _
    refine st2.trans ?_
    show Steps p.tables e below (T2.setTop (mkF m 7 #[.val (.ref s_UNREALIZABLE)] [(.int (1 : Int32)), (.ref s_SW)])) _
    refine X2.iaload hx (j := (1 : Int32)) (v := (.int (2 : Int32))) (by rw [e2]; exact A_SW.1) (State.isArrayOf_alike hZ.alike A_SW.2.1) A_SW.2.2 in_SW_1 at_SW_1 (g := (mkF m 7 #[.val (.ref s_UNREALIZABLE)] [(.int (1 : Int32)), (.ref s_SW)])) rfl rfl (hb hby d1_7) _ ?_
    show Steps p.tables e below (T2.setTop (mkF m 8 #[.val (.ref s_UNREALIZABLE)] [(.int (2 : Int32))])) _
    refine XS.tswIn X2.here hx rfl (pc0 := 8) (pc' := 46) (o := 38) rfl (hb hby d1_8) rfl (by decide +kernel) (by decide +kernel) (by decide) (by decide) ?_
    show Steps p.tables e below (T2.setTop (mkF m 46 #[.val (.ref s_UNREALIZABLE)] [])) _
    refine XS.iconst X2.here hx rfl (hb hby d1_46) ?_
    show Steps p.tables e below (T2.setTop (mkF m 47 #[.val (.ref s_UNREALIZABLE)] [(.int (0 : Int32))])) _
    refine XS.goto X2.here hx rfl (pc0 := 47) (pc' := 55) rfl (hb hby d1_47) (by decide) (by decide) ?_
    show Steps p.tables e below (T2.setTop (mkF m 55 #[.val (.ref s_UNREALIZABLE)] [(.int (0 : Int32))])) _
    exact retOut X2 hx (i := .ireturn) Bd.returns rfl (Or.inl ⟨rfl, Or.inl rfl, _, rfl⟩) (hb hby d1_55) hr
  · exact ⟨rfl, N2, e2⟩
set_option maxRecDepth 65536 in
set_option maxHeartbeats 40000000 in
theorem r10 (l : Launch) (Z : State) (a0 : Array Value) (hw : ∀ d ∈ tables_1, d.before a0 Z = true) (ws : List Jvm.Cond) (h0 : Heap) (n0 : Nat) (s_REALIZABLE : Addr) (s_UNREALIZABLE : Addr) (s_SW : Addr) (s_VACUOUS : Addr) (c_SW : Cell) (K : Ctx Z h0 s_REALIZABLE s_UNREALIZABLE s_SW s_VACUOUS c_SW) :
    MetFree l (⟨"com/example/unruly_environment/unrulyenvironment/cli/ExitCodes", "ofSearch", "(Lcom/example/unruly_environment/unrulyenvironment/game/Verdict;Z)I"⟩ : MethodName) (head1 (Jvm.Cond.code (⟨"com/example/unruly_environment/unrulyenvironment/cli/ExitCodes", "ofSearch", "(Lcom/example/unruly_environment/unrulyenvironment/game/Verdict;Z)I"⟩ : MethodName) prog_29_method_4_code 2 (some .int) :: ws) ({ frames := 2, cells := 0, slots := 0, locals := 25 } : Room)) (fun a U => a = #[(.ref s_UNREALIZABLE), (.int (1 : Int32))] ∧ Z.Warmed39 U.vm ∧ U.heap = h0) (fun _ _ _ _ _ => True) (fun _ U o U' => ∃ v L, o = .returned v ∧ QV (.int (0 : Int32)) h0 n0 v U'.heap L ∧ FrameEnd U o U' L ({ frames := 2, cells := 0, slots := 0, locals := 25 } : Room).cells ({ frames := 2, cells := 0, slots := 0, locals := 25 } : Room).slots) := by
  obtain ⟨S_REALIZABLE, S_UNREALIZABLE, ne_REALIZABLE_UNREALIZABLE, S_SW, F_REALIZABLE_ordinal, E_REALIZABLE, A_SW, in_SW_0, at_SW_0, F_UNREALIZABLE_ordinal, E_UNREALIZABLE, in_SW_1, at_SW_1, S_VACUOUS, ne_UNREALIZABLE_VACUOUS, F_VACUOUS_ordinal, E_VACUOUS, in_SW_2, at_SW_2⟩ := id K
  refine MetFree.of_bodySF (plainFor_of_name pn0) hisR ?_
  intro p e s m args below meth c s₁ Bd hml0 hP hK
  obtain ⟨rfl, hZ, hh⟩ := hP
  have hx := Bd.exec
  have hby := Bd.bytes
  have hml : c.maxLocals = 2 := hml0
  have hown : s.vm.findClass "com/example/unruly_environment/unrulyenvironment/cli/ExitCodes" = some m.cls := findClass_of_methodNamed Bd.named
  have X0 : Stand p l e ({ frames := 2, cells := 0, slots := 0, locals := 25 } : Room) s m #[(.ref s_UNREALIZABLE), (.int (1 : Int32))] below meth c s₁ [] 0 0 := Stand.of_body Bd
  have e0 : s₁.heap = h0 := by rw [← hh, Bd.state]; rfl
  have N0 := Fr.nil n0
  have pre0 : ∀ t, Steps p.tables e below (s₁.setTop (mkF m 0 #[.val (.ref s_UNREALIZABLE), .val (.int (1 : Int32))] [])) t → Steps p.tables e below (s₁.setTop (entryFrame m #[(.ref s_UNREALIZABLE), (.int (1 : Int32))] 2)) t := fun t k => castTop (by first | (simp [entryFrame, mkF, argsToLocals, Value.category]; done) | rfl) k
  obtain ⟨T1, X1, e1, st1⟩ := getS X0 hx hZ hown (host := "") (hw _ (List.mem_of_getElem? (i := 8) rfl)) Via.refl e0 S_UNREALIZABLE (g := (mkF m 1 #[.val (.ref s_UNREALIZABLE), .val (.int (1 : Int32))] [(.ref s_UNREALIZABLE)])) rfl (hb hby d0_1)
  obtain ⟨_, _, ⟨T2, L2, k2, n2⟩, -, X2, ⟨Lc2, hQ2, l2, y2, z2⟩, st2⟩ := Jvm.LawKit.callS X1 hx (y := (⟨"com/example/unruly_environment/unrulyenvironment/cli/ExitCodes", "ofExplanation", "(Lcom/example/unruly_environment/unrulyenvironment/game/Verdict;)I"⟩ : MethodName)) hown (mvT hZ (hw _ (List.mem_of_getElem? (i := 10) rfl))) (mvT hZ (hw _ (List.mem_of_getElem? (i := 11) rfl))) (mvT hZ (hw _ (List.mem_of_getElem? (i := 6) rfl))) (mvT hZ (hw _ (List.mem_of_getElem? (i := 12) rfl))) (by decide) (backOf (W := 0) (r9 l Z a0 hw [] h0 n0 s_REALIZABLE s_UNREALIZABLE s_SW s_VACUOUS c_SW K) hZ (hw _ (List.mem_of_getElem? (i := 12) rfl)) (hw _ (List.mem_of_getElem? (i := 6) rfl)) (by decide) (by decide)) (g := (mkF m 14 #[.val (.ref s_UNREALIZABLE), .val (.int (1 : Int32))] [(.ref s_UNREALIZABLE)])) rfl (by rw [hml]; rfl) (argsL := [(.ref s_UNREALIZABLE)]) (rest := []) (lenOf pd1 rfl) rfl (by show 2 * 0 + _ ≤ _; exact Nat.le_of_eq rfl) (hb hby d0_14) (fun _ _ => ⟨rfl, e1, (by decide : 0 + 0 ≤ _), (by decide : 0 + 0 ≤ _)⟩)
  dsimp only [Pt.U, Pt.locs, Pt.cells, Pt.slots] at X2 l2 y2 z2 st2 hQ2
  subst l2 y2 z2
  obtain ⟨rfl, N2q, e2⟩ := hQ2
  have N2 := Fr.app N0 N2q
  obtain ⟨fs, hr, hrun, hended, hW, hsame⟩ := X2.leave (v := some (.int (0 : Int32))) (fun h => by rw [Bd.returns] at h; cases h)
  refine ⟨_, _, pre0 _ ?_, hrun, hended, _, _, rfl, ?_, ⟨_, rfl⟩, hW, hsame.mono (by decide) (by decide)⟩
  · show Steps p.tables e below (s₁.setTop (mkF m 0 #[.val (.ref s_UNREALIZABLE), .val (.int (1 : Int32))] [])) _
    refine XS.aloadN X0.here hx rfl (hb hby d0_0) rfl rfl ?_
    show Steps p.tables e below (s₁.setTop (mkF m 1 #[.val (.ref s_UNREALIZABLE), .val (.int (1 : Int32))] [(.ref s_UNREALIZABLE)])) _
    refine st1 _ ?_
    show Steps p.tables e below (T1.setTop (mkF m 4 #[.val (.ref s_UNREALIZABLE), .val (.int (1 : Int32))] [(.ref s_UNREALIZABLE), (.ref s_UNREALIZABLE)])) _
    refine Jvm.RoadKit.acmp (g := (mkF m 4 #[.val (.ref s_UNREALIZABLE), .val (.int (1 : Int32))] [(.ref s_UNREALIZABLE), (.ref s_UNREALIZABLE)])) X1 hx rfl rfl rfl (pc0 := 4) (pc' := 7) (same := true) rfl (hb hby d0_4) rfl (decide_eq_true rfl) (by decide) (by decide) ?_
    show Steps p.tables e below (T1.setTop (mkF m 7 #[.val (.ref s_UNREALIZABLE), .val (.int (1 : Int32))] [])) _
    refine XS.iloadN X1.here hx rfl (hb hby d0_7) rfl ?_
    show Steps p.tables e below (T1.setTop (mkF m 8 #[.val (.ref s_UNREALIZABLE), .val (.int (1 : Int32))] [(.int (1 : Int32))])) _
    refine XS.ifYes X1.here hx rfl (pc0 := 8) (pc' := 13) rfl (hb hby d0_8) rfl (by decide +kernel) (by decide) (by decide) ?_
    show Steps p.tables e below (T1.setTop (mkF m 13 #[.val (.ref s_UNREALIZABLE), .val (.int (1 : Int32))] [])) _
    refine XS.aloadN X1.here hx rfl (hb hby d0_13) rfl rfl ?_
    show Steps p.tables e below (T1.setTop (mkF m 14 #[.val (.ref s_UNREALIZABLE), .val (.int (1 : Int32))] [(.ref s_UNREALIZABLE)])) _
    refine st2 _ ?_
    show Steps p.tables e below (T2.setTop (mkF m 17 #[.val (.ref s_UNREALIZABLE), .val (.int (1 : Int32))] [(.int (0 : Int32))])) _
    exact retOut X2 hx (i := .ireturn) Bd.returns rfl (Or.inl ⟨rfl, Or.inl rfl, _, rfl⟩) (hb hby d0_17) hr
  · exact ⟨rfl, N2, e2⟩
set_option maxRecDepth 65536 in
set_option maxHeartbeats 40000000 in
theorem law_k1_1 (l : Launch) (Z : State) (a0 : Array Value) (hw : ∀ d ∈ tables_1, d.before a0 Z = true) (ws : List Jvm.Cond) (h0 : Heap) (n0 : Nat) (s_REALIZABLE : Addr) (s_UNREALIZABLE : Addr) (s_SW : Addr) (s_VACUOUS : Addr) (c_SW : Cell) (K : Ctx Z h0 s_REALIZABLE s_UNREALIZABLE s_SW s_VACUOUS c_SW) (p0 : Int32) (p1 : Int32) (hp0 : ((p0 &&& (2147483647 : Int32)) % (3 : Int32)) = (1 : Int32)) (hp1 : (p1 &&& (1 : Int32)) = (1 : Int32)) :
    MetFree l x (head1 (Jvm.Cond.code x code maxLocals ret :: ws) room_1) (fun a U => a = #[(.int p0), (.int p1)] ∧ Z.Warmed39 U.vm ∧ U.heap = h0) (fun _ _ _ _ _ => True) (fun _ U o U' => ∃ v L, o = .returned v ∧ QV (.int (1 : Int32)) h0 n0 v U'.heap L ∧ FrameEnd U o U' L room_1.cells room_1.slots) := by
  obtain ⟨S_REALIZABLE, S_UNREALIZABLE, ne_REALIZABLE_UNREALIZABLE, S_SW, F_REALIZABLE_ordinal, E_REALIZABLE, A_SW, in_SW_0, at_SW_0, F_UNREALIZABLE_ordinal, E_UNREALIZABLE, in_SW_1, at_SW_1, S_VACUOUS, ne_UNREALIZABLE_VACUOUS, F_VACUOUS_ordinal, E_VACUOUS, in_SW_2, at_SW_2⟩ := id K
  refine MetFree.of_bodySF (plainFor_of_name pn3) hisR ?_
  intro p e s m args below meth c s₁ Bd hml0 hP hK
  obtain ⟨rfl, hZ, hh⟩ := hP
  have hx := Bd.exec
  have hby := Bd.bytes
  have hml : c.maxLocals = 6 := hml0
  have hown : s.vm.findClass "com/example/unruly_environment/unrulyenvironment/cli/ExitCodesOfSearchPinLaw" = some m.cls := findClass_of_methodNamed Bd.named
  have X0 : Stand p l e room_1 s m #[(.int p0), (.int p1)] below meth c s₁ [] 0 0 := Stand.of_body Bd
  have e0 : s₁.heap = h0 := by rw [← hh, Bd.state]; rfl
  have N0 := Fr.nil n0
  have pre0 : ∀ t, Steps p.tables e below (s₁.setTop (mkF m 0 #[.val (.int p0), .val (.int p1), .unset, .unset, .unset, .unset] [])) t → Steps p.tables e below (s₁.setTop (entryFrame m #[(.int p0), (.int p1)] maxLocals)) t := fun t k => castTop (by first | (simp [entryFrame, mkF, argsToLocals, Value.category, maxLocals]; done) | rfl) k
  obtain ⟨T1, X1, e1, st1⟩ := getS X0 hx hZ hown (host := "") (hw _ (List.mem_of_getElem? (i := 27) rfl)) Via.refl e0 S_UNREALIZABLE (g := (mkF m 39 #[.val (.int p0), .val (.int p1), .val (.int (1 : Int32)), .val (.int (1 : Int32)), .unset, .unset] [])) rfl (hb hby at_39)
  obtain ⟨_, _, ⟨T2, L2, k2, n2⟩, -, X2, ⟨Lc2, hQ2, l2, y2, z2⟩, st2⟩ := Jvm.LawKit.callS X1 hx (y := (⟨"com/example/unruly_environment/unrulyenvironment/cli/ExitCodes", "ofSearch", "(Lcom/example/unruly_environment/unrulyenvironment/game/Verdict;Z)I"⟩ : MethodName)) hown (mvT hZ (hw _ (List.mem_of_getElem? (i := 4) rfl))) (mvT hZ (hw _ (List.mem_of_getElem? (i := 5) rfl))) (mvT hZ (hw _ (List.mem_of_getElem? (i := 6) rfl))) (mvT hZ (hw _ (List.mem_of_getElem? (i := 7) rfl))) (by decide) (backOf (W := 0) (r10 l Z a0 hw [] h0 n0 s_REALIZABLE s_UNREALIZABLE s_SW s_VACUOUS c_SW K) hZ (hw _ (List.mem_of_getElem? (i := 7) rfl)) (hw _ (List.mem_of_getElem? (i := 6) rfl)) (by decide) (by decide)) (g := (mkF m 71 #[.val (.int p0), .val (.int p1), .val (.int (1 : Int32)), .val (.int (1 : Int32)), .val (.ref s_UNREALIZABLE), .val (.int (0 : Int32))] [(.int (1 : Int32)), (.ref s_UNREALIZABLE)])) rfl (by rw [hml]; rfl) (argsL := [(.ref s_UNREALIZABLE), (.int (1 : Int32))]) (rest := []) (lenOf pd2 rfl) rfl (by show 2 * 0 + _ ≤ _; exact Nat.le_of_eq rfl) (hb hby at_71) (fun _ _ => ⟨rfl, e1, (by decide : 0 + 0 ≤ _), (by decide : 0 + 0 ≤ _)⟩)
  dsimp only [Pt.U, Pt.locs, Pt.cells, Pt.slots] at X2 l2 y2 z2 st2 hQ2
  subst l2 y2 z2
  obtain ⟨rfl, N2q, e2⟩ := hQ2
  have N2 := Fr.app N0 N2q
  obtain ⟨fs, hr, hrun, hended, hW, hsame⟩ := X2.leave (v := some (.int (1 : Int32))) (fun h => by rw [Bd.returns] at h; cases h)
  refine ⟨_, _, pre0 _ ?_, hrun, hended, _, _, rfl, ?_, ⟨_, rfl⟩, hW, hsame.mono (by decide) (by decide)⟩
  · show Steps p.tables e below (s₁.setTop (mkF m 0 #[.val (.int p0), .val (.int p1), .unset, .unset, .unset, .unset] [])) _
    refine XS.iloadN X0.here hx rfl (hb hby at_0) rfl ?_
    show Steps p.tables e below (s₁.setTop (mkF m 1 #[.val (.int p0), .val (.int p1), .unset, .unset, .unset, .unset] [(.int p0)])) _
    refine X0.ldcInt hx hown (mvT hZ (hw _ (List.mem_of_getElem? (i := 0) rfl))) (g := (mkF m 1 #[.val (.int p0), .val (.int p1), .unset, .unset, .unset, .unset] [(.int p0)])) rfl (hb hby at_1) _ ?_
    show Steps p.tables e below (s₁.setTop (mkF m 3 #[.val (.int p0), .val (.int p1), .unset, .unset, .unset, .unset] [(.int (2147483647 : Int32)), (.int p0)])) _
    refine XS.iand X0.here hx rfl (hb hby at_3) rfl ?_
    show Steps p.tables e below (s₁.setTop (mkF m 4 #[.val (.int p0), .val (.int p1), .unset, .unset, .unset, .unset] [(.int (p0 &&& (2147483647 : Int32)))])) _
    refine XS.iconst X0.here hx rfl (hb hby at_4) ?_
    show Steps p.tables e below (s₁.setTop (mkF m 5 #[.val (.int p0), .val (.int p1), .unset, .unset, .unset, .unset] [(.int (3 : Int32)), (.int (p0 &&& (2147483647 : Int32)))])) _
    refine Jvm.RoadKit.iremM X0 hx rfl (hb hby at_5) rfl (by decide) ?_
    show Steps p.tables e below (s₁.setTop (mkF m 6 #[.val (.int p0), .val (.int p1), .unset, .unset, .unset, .unset] [(.int ((p0 &&& (2147483647 : Int32)) % (3 : Int32)))])) _
    rw [hp0]
    show Steps p.tables e below (s₁.setTop (mkF m 6 #[.val (.int p0), .val (.int p1), .unset, .unset, .unset, .unset] [(.int (1 : Int32))])) _
    refine XS.istoreN X0.here hx rfl (hb hby at_6) rfl (l' := #[.val (.int p0), .val (.int p1), .val (.int (1 : Int32)), .unset, .unset, .unset]) rfl ?_
    show Steps p.tables e below (s₁.setTop (mkF m 7 #[.val (.int p0), .val (.int p1), .val (.int (1 : Int32)), .unset, .unset, .unset] [])) _
    refine XS.iloadN X0.here hx rfl (hb hby at_7) rfl ?_
    show Steps p.tables e below (s₁.setTop (mkF m 8 #[.val (.int p0), .val (.int p1), .val (.int (1 : Int32)), .unset, .unset, .unset] [(.int p1)])) _
    refine XS.iconst X0.here hx rfl (hb hby at_8) ?_
    show Steps p.tables e below (s₁.setTop (mkF m 9 #[.val (.int p0), .val (.int p1), .val (.int (1 : Int32)), .unset, .unset, .unset] [(.int (1 : Int32)), (.int p1)])) _
    refine XS.iand X0.here hx rfl (hb hby at_9) rfl ?_
    show Steps p.tables e below (s₁.setTop (mkF m 10 #[.val (.int p0), .val (.int p1), .val (.int (1 : Int32)), .unset, .unset, .unset] [(.int (p1 &&& (1 : Int32)))])) _
    rw [hp1]
    show Steps p.tables e below (s₁.setTop (mkF m 10 #[.val (.int p0), .val (.int p1), .val (.int (1 : Int32)), .unset, .unset, .unset] [(.int (1 : Int32))])) _
    refine XS.ifNo X0.here hx rfl (hb hby at_10) rfl (by decide +kernel) ?_
    show Steps p.tables e below (s₁.setTop (mkF m 13 #[.val (.int p0), .val (.int p1), .val (.int (1 : Int32)), .unset, .unset, .unset] [])) _
    refine XS.iconst X0.here hx rfl (hb hby at_13) ?_
    show Steps p.tables e below (s₁.setTop (mkF m 14 #[.val (.int p0), .val (.int p1), .val (.int (1 : Int32)), .unset, .unset, .unset] [(.int (1 : Int32))])) _
    refine XS.goto X0.here hx rfl (pc0 := 14) (pc' := 18) rfl (hb hby at_14) (by decide) (by decide) ?_
    show Steps p.tables e below (s₁.setTop (mkF m 18 #[.val (.int p0), .val (.int p1), .val (.int (1 : Int32)), .unset, .unset, .unset] [(.int (1 : Int32))])) _
    refine XS.istoreN X0.here hx rfl (hb hby at_18) rfl (l' := #[.val (.int p0), .val (.int p1), .val (.int (1 : Int32)), .val (.int (1 : Int32)), .unset, .unset]) rfl ?_
    show Steps p.tables e below (s₁.setTop (mkF m 19 #[.val (.int p0), .val (.int p1), .val (.int (1 : Int32)), .val (.int (1 : Int32)), .unset, .unset] [])) _
    refine XS.iloadN X0.here hx rfl (hb hby at_19) rfl ?_
    show Steps p.tables e below (s₁.setTop (mkF m 20 #[.val (.int p0), .val (.int p1), .val (.int (1 : Int32)), .val (.int (1 : Int32)), .unset, .unset] [(.int (1 : Int32))])) _
    refine XS.ifYes X0.here hx rfl (pc0 := 20) (pc' := 34) rfl (hb hby at_20) rfl (by decide +kernel) (by decide) (by decide) ?_
    show Steps p.tables e below (s₁.setTop (mkF m 34 #[.val (.int p0), .val (.int p1), .val (.int (1 : Int32)), .val (.int (1 : Int32)), .unset, .unset] [])) _
    refine XS.iloadN X0.here hx rfl (hb hby at_34) rfl ?_
    show Steps p.tables e below (s₁.setTop (mkF m 35 #[.val (.int p0), .val (.int p1), .val (.int (1 : Int32)), .val (.int (1 : Int32)), .unset, .unset] [(.int (1 : Int32))])) _
    refine XS.iconst X0.here hx rfl (hb hby at_35) ?_
    show Steps p.tables e below (s₁.setTop (mkF m 36 #[.val (.int p0), .val (.int p1), .val (.int (1 : Int32)), .val (.int (1 : Int32)), .unset, .unset] [(.int (1 : Int32)), (.int (1 : Int32))])) _
    refine XS.icmpNo X0.here hx rfl (hb hby at_36) rfl (by decide +kernel) ?_
    show Steps p.tables e below (s₁.setTop (mkF m 39 #[.val (.int p0), .val (.int p1), .val (.int (1 : Int32)), .val (.int (1 : Int32)), .unset, .unset] [])) _
    refine st1 _ ?_
    show Steps p.tables e below (T1.setTop (mkF m 42 #[.val (.int p0), .val (.int p1), .val (.int (1 : Int32)), .val (.int (1 : Int32)), .unset, .unset] [(.ref s_UNREALIZABLE)])) _
    refine XS.astore X1.here hx rfl (hb hby at_42) rfl rfl (l' := #[.val (.int p0), .val (.int p1), .val (.int (1 : Int32)), .val (.int (1 : Int32)), .val (.ref s_UNREALIZABLE), .unset]) rfl ?_
    show Steps p.tables e below (T1.setTop (mkF m 44 #[.val (.int p0), .val (.int p1), .val (.int (1 : Int32)), .val (.int (1 : Int32)), .val (.ref s_UNREALIZABLE), .unset] [])) _
    refine XS.iloadN X1.here hx rfl (hb hby at_44) rfl ?_
    show Steps p.tables e below (T1.setTop (mkF m 45 #[.val (.int p0), .val (.int p1), .val (.int (1 : Int32)), .val (.int (1 : Int32)), .val (.ref s_UNREALIZABLE), .unset] [(.int (1 : Int32))])) _
    refine XS.ifNo X1.here hx rfl (hb hby at_45) rfl (by decide +kernel) ?_
    show Steps p.tables e below (T1.setTop (mkF m 48 #[.val (.int p0), .val (.int p1), .val (.int (1 : Int32)), .val (.int (1 : Int32)), .val (.ref s_UNREALIZABLE), .unset] [])) _
    refine XS.iconst X1.here hx rfl (hb hby at_48) ?_
    show Steps p.tables e below (T1.setTop (mkF m 49 #[.val (.int p0), .val (.int p1), .val (.int (1 : Int32)), .val (.int (1 : Int32)), .val (.ref s_UNREALIZABLE), .unset] [(.int (0 : Int32))])) _
    refine XS.istore X1.here hx rfl (hb hby at_49) rfl (l' := #[.val (.int p0), .val (.int p1), .val (.int (1 : Int32)), .val (.int (1 : Int32)), .val (.ref s_UNREALIZABLE), .val (.int (0 : Int32))]) rfl ?_
    show Steps p.tables e below (T1.setTop (mkF m 51 #[.val (.int p0), .val (.int p1), .val (.int (1 : Int32)), .val (.int (1 : Int32)), .val (.ref s_UNREALIZABLE), .val (.int (0 : Int32))] [])) _
    refine XS.goto X1.here hx rfl (pc0 := 51) (pc' := 68) rfl (hb hby at_51) (by decide) (by decide) ?_
    show Steps p.tables e below (T1.setTop (mkF m 68 #[.val (.int p0), .val (.int p1), .val (.int (1 : Int32)), .val (.int (1 : Int32)), .val (.ref s_UNREALIZABLE), .val (.int (0 : Int32))] [])) _
    refine XS.aload X1.here hx rfl (hb hby at_68) rfl rfl ?_
    show Steps p.tables e below (T1.setTop (mkF m 70 #[.val (.int p0), .val (.int p1), .val (.int (1 : Int32)), .val (.int (1 : Int32)), .val (.ref s_UNREALIZABLE), .val (.int (0 : Int32))] [(.ref s_UNREALIZABLE)])) _
    refine XS.iloadN X1.here hx rfl (hb hby at_70) rfl ?_
    show Steps p.tables e below (T1.setTop (mkF m 71 #[.val (.int p0), .val (.int p1), .val (.int (1 : Int32)), .val (.int (1 : Int32)), .val (.ref s_UNREALIZABLE), .val (.int (0 : Int32))] [(.int (1 : Int32)), (.ref s_UNREALIZABLE)])) _
    refine st2 _ ?_
    show Steps p.tables e below (T2.setTop (mkF m 74 #[.val (.int p0), .val (.int p1), .val (.int (1 : Int32)), .val (.int (1 : Int32)), .val (.ref s_UNREALIZABLE), .val (.int (0 : Int32))] [(.int (0 : Int32))])) _
    refine XS.iload X2.here hx rfl (hb hby at_74) rfl ?_
    show Steps p.tables e below (T2.setTop (mkF m 76 #[.val (.int p0), .val (.int p1), .val (.int (1 : Int32)), .val (.int (1 : Int32)), .val (.ref s_UNREALIZABLE), .val (.int (0 : Int32))] [(.int (0 : Int32)), (.int (0 : Int32))])) _
    refine XS.icmpNo X2.here hx rfl (hb hby at_76) rfl (by decide +kernel) ?_
    show Steps p.tables e below (T2.setTop (mkF m 79 #[.val (.int p0), .val (.int p1), .val (.int (1 : Int32)), .val (.int (1 : Int32)), .val (.ref s_UNREALIZABLE), .val (.int (0 : Int32))] [])) _
    refine XS.iconst X2.here hx rfl (hb hby at_79) ?_
    show Steps p.tables e below (T2.setTop (mkF m 80 #[.val (.int p0), .val (.int p1), .val (.int (1 : Int32)), .val (.int (1 : Int32)), .val (.ref s_UNREALIZABLE), .val (.int (0 : Int32))] [(.int (1 : Int32))])) _
    refine XS.goto X2.here hx rfl (pc0 := 80) (pc' := 84) rfl (hb hby at_80) (by decide) (by decide) ?_
    show Steps p.tables e below (T2.setTop (mkF m 84 #[.val (.int p0), .val (.int p1), .val (.int (1 : Int32)), .val (.int (1 : Int32)), .val (.ref s_UNREALIZABLE), .val (.int (0 : Int32))] [(.int (1 : Int32))])) _
    exact retN X2 hx (t := .boolean) Bd.returns (by simp) (hb hby at_84) hr
  · exact ⟨rfl, N2, e2⟩
set_option maxRecDepth 65536 in
set_option maxHeartbeats 40000000 in
theorem r12 (l : Launch) (Z : State) (a0 : Array Value) (hw : ∀ d ∈ tables_1, d.before a0 Z = true) (ws : List Jvm.Cond) (h0 : Heap) (n0 : Nat) (s_REALIZABLE : Addr) (s_UNREALIZABLE : Addr) (s_SW : Addr) (s_VACUOUS : Addr) (c_SW : Cell) (K : Ctx Z h0 s_REALIZABLE s_UNREALIZABLE s_SW s_VACUOUS c_SW) :
    MetFree l (⟨"java/lang/Enum", "ordinal", "()I"⟩ : MethodName) (head1 (Jvm.Cond.code (⟨"java/lang/Enum", "ordinal", "()I"⟩ : MethodName) jdk_37_method_2_code 1 (some .int) :: ws) ({ frames := 0, cells := 0, slots := 0, locals := 0 } : Room)) (fun a U => a = #[(.ref s_VACUOUS)] ∧ Z.Warmed39 U.vm ∧ U.heap = h0) (fun _ _ _ _ _ => True) (fun _ U o U' => ∃ v L, o = .returned v ∧ QV (.int (2 : Int32)) h0 n0 v U'.heap L ∧ FrameEnd U o U' L ({ frames := 0, cells := 0, slots := 0, locals := 0 } : Room).cells ({ frames := 0, cells := 0, slots := 0, locals := 0 } : Room).slots) := by
  obtain ⟨S_REALIZABLE, S_UNREALIZABLE, ne_REALIZABLE_UNREALIZABLE, S_SW, F_REALIZABLE_ordinal, E_REALIZABLE, A_SW, in_SW_0, at_SW_0, F_UNREALIZABLE_ordinal, E_UNREALIZABLE, in_SW_1, at_SW_1, S_VACUOUS, ne_UNREALIZABLE_VACUOUS, F_VACUOUS_ordinal, E_VACUOUS, in_SW_2, at_SW_2⟩ := id K
  refine MetFree.of_bodySF (plainFor_of_name pn2) hisR ?_
  intro p e s m args below meth c s₁ Bd hml0 hP hK
  obtain ⟨rfl, hZ, hh⟩ := hP
  have hx := Bd.exec
  have hby := Bd.bytes
  have hml : c.maxLocals = 1 := hml0
  have hown : s.vm.findClass "java/lang/Enum" = some m.cls := findClass_of_methodNamed Bd.named
  have X0 : Stand p l e ({ frames := 0, cells := 0, slots := 0, locals := 0 } : Room) s m #[(.ref s_VACUOUS)] below meth c s₁ [] 0 0 := Stand.of_body Bd
  have e0 : s₁.heap = h0 := by rw [← hh, Bd.state]; rfl
  have N0 := Fr.nil n0
  have pre0 : ∀ t, Steps p.tables e below (s₁.setTop (mkF m 0 #[.val (.ref s_VACUOUS)] [])) t → Steps p.tables e below (s₁.setTop (entryFrame m #[(.ref s_VACUOUS)] 1)) t := fun t k => castTop (by first | (simp [entryFrame, mkF, argsToLocals, Value.category]; done) | rfl) k
  obtain ⟨T1, X1, e1, st1⟩ := getF X0 hx hZ hown (host := "") (Or.inl (hw _ (List.mem_of_getElem? (i := 23) rfl))) Via.refl e0 F_VACUOUS_ordinal (g := (mkF m 1 #[.val (.ref s_VACUOUS)] [(.ref s_VACUOUS)])) rfl rfl (hb hby d2_1)
  obtain ⟨fs, hr, hrun, hended, hW, hsame⟩ := X1.leave (v := some (.int (2 : Int32))) (fun h => by rw [Bd.returns] at h; cases h)
  refine ⟨_, _, pre0 _ ?_, hrun, hended, _, _, rfl, ?_, ⟨_, rfl⟩, hW, hsame.mono (by decide) (by decide)⟩
  · show Steps p.tables e below (s₁.setTop (mkF m 0 #[.val (.ref s_VACUOUS)] [])) _
    refine XS.aloadN X0.here hx rfl (hb hby d2_0) rfl rfl ?_
    show Steps p.tables e below (s₁.setTop (mkF m 1 #[.val (.ref s_VACUOUS)] [(.ref s_VACUOUS)])) _
    refine st1 _ ?_
    show Steps p.tables e below (T1.setTop (mkF m 4 #[.val (.ref s_VACUOUS)] [(.int (2 : Int32))])) _
    exact retOut X1 hx (i := .ireturn) Bd.returns rfl (Or.inl ⟨rfl, Or.inl rfl, _, rfl⟩) (hb hby d2_4) hr
  · exact ⟨rfl, N0, e1⟩
set_option maxRecDepth 65536 in
set_option maxHeartbeats 40000000 in
theorem r13 (l : Launch) (Z : State) (a0 : Array Value) (hw : ∀ d ∈ tables_1, d.before a0 Z = true) (ws : List Jvm.Cond) (h0 : Heap) (n0 : Nat) (s_REALIZABLE : Addr) (s_UNREALIZABLE : Addr) (s_SW : Addr) (s_VACUOUS : Addr) (c_SW : Cell) (K : Ctx Z h0 s_REALIZABLE s_UNREALIZABLE s_SW s_VACUOUS c_SW) :
    MetFree l (⟨"com/example/unruly_environment/unrulyenvironment/cli/ExitCodes", "ofExplanation", "(Lcom/example/unruly_environment/unrulyenvironment/game/Verdict;)I"⟩ : MethodName) (head1 (Jvm.Cond.code (⟨"com/example/unruly_environment/unrulyenvironment/cli/ExitCodes", "ofExplanation", "(Lcom/example/unruly_environment/unrulyenvironment/game/Verdict;)I"⟩ : MethodName) prog_29_method_3_code 1 (some .int) :: ws) ({ frames := 1, cells := 0, slots := 0, locals := 13 } : Room)) (fun a U => a = #[(.ref s_VACUOUS)] ∧ Z.Warmed39 U.vm ∧ U.heap = h0) (fun _ _ _ _ _ => True) (fun _ U o U' => ∃ v L, o = .returned v ∧ QV (.int (3 : Int32)) h0 n0 v U'.heap L ∧ FrameEnd U o U' L ({ frames := 1, cells := 0, slots := 0, locals := 13 } : Room).cells ({ frames := 1, cells := 0, slots := 0, locals := 13 } : Room).slots) := by
  obtain ⟨S_REALIZABLE, S_UNREALIZABLE, ne_REALIZABLE_UNREALIZABLE, S_SW, F_REALIZABLE_ordinal, E_REALIZABLE, A_SW, in_SW_0, at_SW_0, F_UNREALIZABLE_ordinal, E_UNREALIZABLE, in_SW_1, at_SW_1, S_VACUOUS, ne_UNREALIZABLE_VACUOUS, F_VACUOUS_ordinal, E_VACUOUS, in_SW_2, at_SW_2⟩ := id K
  refine MetFree.of_bodySF (plainFor_of_name pn1) hisR ?_
  intro p e s m args below meth c s₁ Bd hml0 hP hK
  obtain ⟨rfl, hZ, hh⟩ := hP
  have hx := Bd.exec
  have hby := Bd.bytes
  have hml : c.maxLocals = 1 := hml0
  have hown : s.vm.findClass "com/example/unruly_environment/unrulyenvironment/cli/ExitCodes" = some m.cls := findClass_of_methodNamed Bd.named
  have X0 : Stand p l e ({ frames := 1, cells := 0, slots := 0, locals := 13 } : Room) s m #[(.ref s_VACUOUS)] below meth c s₁ [] 0 0 := Stand.of_body Bd
  have e0 : s₁.heap = h0 := by rw [← hh, Bd.state]; rfl
  have N0 := Fr.nil n0
  have pre0 : ∀ t, Steps p.tables e below (s₁.setTop (mkF m 0 #[.val (.ref s_VACUOUS)] [])) t → Steps p.tables e below (s₁.setTop (entryFrame m #[(.ref s_VACUOUS)] 1)) t := fun t k => castTop (by first | (simp [entryFrame, mkF, argsToLocals, Value.category]; done) | rfl) k
  obtain ⟨T1, X1, e1, st1⟩ := getS X0 hx hZ hown (host := "") (hw _ (List.mem_of_getElem? (i := 13) rfl)) Via.refl e0 S_SW (g := (mkF m 0 #[.val (.ref s_VACUOUS)] [])) rfl (hb hby d1_0)
  obtain ⟨cq2, kq2, q2a, q2b, q2c⟩ := isOf hZ e1 E_VACUOUS
  obtain ⟨_, _, ⟨T2, L2, k2, n2⟩, -, X2, ⟨Lc2, hQ2, l2, y2, z2⟩, st2⟩ := X1.virtualBackUp hx (owner := "java/lang/Enum") (x := (⟨"com/example/unruly_environment/unrulyenvironment/game/Verdict", "ordinal", "()I"⟩ : MethodName)) (y := (⟨"java/lang/Enum", "ordinal", "()I"⟩ : MethodName)) hown (mvT hZ (hw _ (List.mem_of_getElem? (i := 16) rfl))) (mvT hZ (hw _ (List.mem_of_getElem? (i := 17) rfl))) (mvT hZ (hw _ (List.mem_of_getElem? (i := 18) rfl))) (by decide) (mvT hZ (hw _ (List.mem_of_getElem? (i := 20) rfl))) (mvT hZ (hw _ (List.mem_of_getElem? (i := 19) rfl))) (backOf (W := 1) (r12 l Z a0 hw [] h0 n0 s_REALIZABLE s_UNREALIZABLE s_SW s_VACUOUS c_SW K) hZ (hw _ (List.mem_of_getElem? (i := 22) rfl)) (hw _ (List.mem_of_getElem? (i := 21) rfl)) (by decide) (by decide)) q2a q2c (g := (mkF m 4 #[.val (.ref s_VACUOUS)] [(.ref s_VACUOUS), (.ref s_SW)])) rfl (by rw [hml]; rfl) (Steps.refl _) (argsL := []) (rest := [(.ref s_SW)]) (lenOf pd0 rfl) rfl (by show 2 * 0 + _ ≤ _; exact Nat.le_of_eq rfl) (hb hby d1_4) (fun _ _ => ⟨rfl, e1, (by decide : 0 + 0 ≤ _), (by decide : 0 + 0 ≤ _)⟩)
  dsimp only [Pt.U, Pt.locs, Pt.cells, Pt.slots] at X2 l2 y2 z2 st2 hQ2
  subst l2 y2 z2
  obtain ⟨rfl, N2q, e2⟩ := hQ2
  have N2 := Fr.app N0 N2q
  obtain ⟨fs, hr, hrun, hended, hW, hsame⟩ := X2.leave (v := some (.int (3 : Int32))) (fun h => by rw [Bd.returns] at h; cases h)
  refine ⟨_, _, pre0 _ ?_, hrun, hended, _, _, rfl, ?_, ⟨_, rfl⟩, hW, hsame.mono (by decide) (by decide)⟩
  · show Steps p.tables e below (s₁.setTop (mkF m 0 #[.val (.ref s_VACUOUS)] [])) _
    refine st1 _ ?_
    show Steps p.tables e below (T1.setTop (mkF m 3 #[.val (.ref s_VACUOUS)] [(.ref s_SW)])) _
    refine XS.aloadN X1.here hx rfl (hb hby d1_3) rfl rfl ?_
    show Steps p.tables e below (T1.setTop (mkF m 4 #[.val (.ref s_VACUOUS)] [(.ref s_VACUOUS), (.ref s_SW)])) _
    refine st2.trans ?_
    show Steps p.tables e below (T2.setTop (mkF m 7 #[.val (.ref s_VACUOUS)] [(.int (2 : Int32)), (.ref s_SW)])) _
    refine X2.iaload hx (j := (2 : Int32)) (v := (.int (3 : Int32))) (by rw [e2]; exact A_SW.1) (State.isArrayOf_alike hZ.alike A_SW.2.1) A_SW.2.2 in_SW_2 at_SW_2 (g := (mkF m 7 #[.val (.ref s_VACUOUS)] [(.int (2 : Int32)), (.ref s_SW)])) rfl rfl (hb hby d1_7) _ ?_
    show Steps p.tables e below (T2.setTop (mkF m 8 #[.val (.ref s_VACUOUS)] [(.int (3 : Int32))])) _
    refine XS.tswIn X2.here hx rfl (pc0 := 8) (pc' := 54) (o := 46) rfl (hb hby d1_8) rfl (by decide +kernel) (by decide +kernel) (by decide) (by decide) ?_
    show Steps p.tables e below (T2.setTop (mkF m 54 #[.val (.ref s_VACUOUS)] [])) _
    refine XS.iconst X2.here hx rfl (hb hby d1_54) ?_
    show Steps p.tables e below (T2.setTop (mkF m 55 #[.val (.ref s_VACUOUS)] [(.int (3 : Int32))])) _
    exact retOut X2 hx (i := .ireturn) Bd.returns rfl (Or.inl ⟨rfl, Or.inl rfl, _, rfl⟩) (hb hby d1_55) hr
  · exact ⟨rfl, N2, e2⟩
set_option maxRecDepth 65536 in
set_option maxHeartbeats 40000000 in
theorem r14 (l : Launch) (Z : State) (a0 : Array Value) (hw : ∀ d ∈ tables_1, d.before a0 Z = true) (ws : List Jvm.Cond) (h0 : Heap) (n0 : Nat) (s_REALIZABLE : Addr) (s_UNREALIZABLE : Addr) (s_SW : Addr) (s_VACUOUS : Addr) (c_SW : Cell) (K : Ctx Z h0 s_REALIZABLE s_UNREALIZABLE s_SW s_VACUOUS c_SW) :
    MetFree l (⟨"com/example/unruly_environment/unrulyenvironment/cli/ExitCodes", "ofSearch", "(Lcom/example/unruly_environment/unrulyenvironment/game/Verdict;Z)I"⟩ : MethodName) (head1 (Jvm.Cond.code (⟨"com/example/unruly_environment/unrulyenvironment/cli/ExitCodes", "ofSearch", "(Lcom/example/unruly_environment/unrulyenvironment/game/Verdict;Z)I"⟩ : MethodName) prog_29_method_4_code 2 (some .int) :: ws) ({ frames := 2, cells := 0, slots := 0, locals := 25 } : Room)) (fun a U => a = #[(.ref s_VACUOUS), (.int (0 : Int32))] ∧ Z.Warmed39 U.vm ∧ U.heap = h0) (fun _ _ _ _ _ => True) (fun _ U o U' => ∃ v L, o = .returned v ∧ QV (.int (3 : Int32)) h0 n0 v U'.heap L ∧ FrameEnd U o U' L ({ frames := 2, cells := 0, slots := 0, locals := 25 } : Room).cells ({ frames := 2, cells := 0, slots := 0, locals := 25 } : Room).slots) := by
  obtain ⟨S_REALIZABLE, S_UNREALIZABLE, ne_REALIZABLE_UNREALIZABLE, S_SW, F_REALIZABLE_ordinal, E_REALIZABLE, A_SW, in_SW_0, at_SW_0, F_UNREALIZABLE_ordinal, E_UNREALIZABLE, in_SW_1, at_SW_1, S_VACUOUS, ne_UNREALIZABLE_VACUOUS, F_VACUOUS_ordinal, E_VACUOUS, in_SW_2, at_SW_2⟩ := id K
  refine MetFree.of_bodySF (plainFor_of_name pn0) hisR ?_
  intro p e s m args below meth c s₁ Bd hml0 hP hK
  obtain ⟨rfl, hZ, hh⟩ := hP
  have hx := Bd.exec
  have hby := Bd.bytes
  have hml : c.maxLocals = 2 := hml0
  have hown : s.vm.findClass "com/example/unruly_environment/unrulyenvironment/cli/ExitCodes" = some m.cls := findClass_of_methodNamed Bd.named
  have X0 : Stand p l e ({ frames := 2, cells := 0, slots := 0, locals := 25 } : Room) s m #[(.ref s_VACUOUS), (.int (0 : Int32))] below meth c s₁ [] 0 0 := Stand.of_body Bd
  have e0 : s₁.heap = h0 := by rw [← hh, Bd.state]; rfl
  have N0 := Fr.nil n0
  have pre0 : ∀ t, Steps p.tables e below (s₁.setTop (mkF m 0 #[.val (.ref s_VACUOUS), .val (.int (0 : Int32))] [])) t → Steps p.tables e below (s₁.setTop (entryFrame m #[(.ref s_VACUOUS), (.int (0 : Int32))] 2)) t := fun t k => castTop (by first | (simp [entryFrame, mkF, argsToLocals, Value.category]; done) | rfl) k
  obtain ⟨T1, X1, e1, st1⟩ := getS X0 hx hZ hown (host := "") (hw _ (List.mem_of_getElem? (i := 8) rfl)) Via.refl e0 S_UNREALIZABLE (g := (mkF m 1 #[.val (.ref s_VACUOUS), .val (.int (0 : Int32))] [(.ref s_VACUOUS)])) rfl (hb hby d0_1)
  obtain ⟨_, _, ⟨T2, L2, k2, n2⟩, -, X2, ⟨Lc2, hQ2, l2, y2, z2⟩, st2⟩ := Jvm.LawKit.callS X1 hx (y := (⟨"com/example/unruly_environment/unrulyenvironment/cli/ExitCodes", "ofExplanation", "(Lcom/example/unruly_environment/unrulyenvironment/game/Verdict;)I"⟩ : MethodName)) hown (mvT hZ (hw _ (List.mem_of_getElem? (i := 10) rfl))) (mvT hZ (hw _ (List.mem_of_getElem? (i := 11) rfl))) (mvT hZ (hw _ (List.mem_of_getElem? (i := 6) rfl))) (mvT hZ (hw _ (List.mem_of_getElem? (i := 12) rfl))) (by decide) (backOf (W := 0) (r13 l Z a0 hw [] h0 n0 s_REALIZABLE s_UNREALIZABLE s_SW s_VACUOUS c_SW K) hZ (hw _ (List.mem_of_getElem? (i := 12) rfl)) (hw _ (List.mem_of_getElem? (i := 6) rfl)) (by decide) (by decide)) (g := (mkF m 14 #[.val (.ref s_VACUOUS), .val (.int (0 : Int32))] [(.ref s_VACUOUS)])) rfl (by rw [hml]; rfl) (argsL := [(.ref s_VACUOUS)]) (rest := []) (lenOf pd1 rfl) rfl (by show 2 * 0 + _ ≤ _; exact Nat.le_of_eq rfl) (hb hby d0_14) (fun _ _ => ⟨rfl, e1, (by decide : 0 + 0 ≤ _), (by decide : 0 + 0 ≤ _)⟩)
  dsimp only [Pt.U, Pt.locs, Pt.cells, Pt.slots] at X2 l2 y2 z2 st2 hQ2
  subst l2 y2 z2
  obtain ⟨rfl, N2q, e2⟩ := hQ2
  have N2 := Fr.app N0 N2q
  obtain ⟨fs, hr, hrun, hended, hW, hsame⟩ := X2.leave (v := some (.int (3 : Int32))) (fun h => by rw [Bd.returns] at h; cases h)
  refine ⟨_, _, pre0 _ ?_, hrun, hended, _, _, rfl, ?_, ⟨_, rfl⟩, hW, hsame.mono (by decide) (by decide)⟩
  · show Steps p.tables e below (s₁.setTop (mkF m 0 #[.val (.ref s_VACUOUS), .val (.int (0 : Int32))] [])) _
    refine XS.aloadN X0.here hx rfl (hb hby d0_0) rfl rfl ?_
    show Steps p.tables e below (s₁.setTop (mkF m 1 #[.val (.ref s_VACUOUS), .val (.int (0 : Int32))] [(.ref s_VACUOUS)])) _
    refine st1 _ ?_
    show Steps p.tables e below (T1.setTop (mkF m 4 #[.val (.ref s_VACUOUS), .val (.int (0 : Int32))] [(.ref s_UNREALIZABLE), (.ref s_VACUOUS)])) _
    refine Jvm.RoadKit.acmp (g := (mkF m 4 #[.val (.ref s_VACUOUS), .val (.int (0 : Int32))] [(.ref s_UNREALIZABLE), (.ref s_VACUOUS)])) X1 hx rfl rfl rfl (pc0 := 4) (pc' := 13) (same := false) rfl (hb hby d0_4) rfl (decide_eq_false fun q => (Ne.symm ne_UNREALIZABLE_VACUOUS) (Value.ref.inj q)) (by decide) (by decide) ?_
    show Steps p.tables e below (T1.setTop (mkF m 13 #[.val (.ref s_VACUOUS), .val (.int (0 : Int32))] [])) _
    refine XS.aloadN X1.here hx rfl (hb hby d0_13) rfl rfl ?_
    show Steps p.tables e below (T1.setTop (mkF m 14 #[.val (.ref s_VACUOUS), .val (.int (0 : Int32))] [(.ref s_VACUOUS)])) _
    refine st2 _ ?_
    show Steps p.tables e below (T2.setTop (mkF m 17 #[.val (.ref s_VACUOUS), .val (.int (0 : Int32))] [(.int (3 : Int32))])) _
    exact retOut X2 hx (i := .ireturn) Bd.returns rfl (Or.inl ⟨rfl, Or.inl rfl, _, rfl⟩) (hb hby d0_17) hr
  · exact ⟨rfl, N2, e2⟩
set_option maxRecDepth 65536 in
set_option maxHeartbeats 40000000 in
theorem law_k2_0 (l : Launch) (Z : State) (a0 : Array Value) (hw : ∀ d ∈ tables_1, d.before a0 Z = true) (ws : List Jvm.Cond) (h0 : Heap) (n0 : Nat) (s_REALIZABLE : Addr) (s_UNREALIZABLE : Addr) (s_SW : Addr) (s_VACUOUS : Addr) (c_SW : Cell) (K : Ctx Z h0 s_REALIZABLE s_UNREALIZABLE s_SW s_VACUOUS c_SW) (p0 : Int32) (p1 : Int32) (hp0 : ((p0 &&& (2147483647 : Int32)) % (3 : Int32)) = (2 : Int32)) (hp1 : (p1 &&& (1 : Int32)) = (0 : Int32)) :
    MetFree l x (head1 (Jvm.Cond.code x code maxLocals ret :: ws) room_1) (fun a U => a = #[(.int p0), (.int p1)] ∧ Z.Warmed39 U.vm ∧ U.heap = h0) (fun _ _ _ _ _ => True) (fun _ U o U' => ∃ v L, o = .returned v ∧ QV (.int (1 : Int32)) h0 n0 v U'.heap L ∧ FrameEnd U o U' L room_1.cells room_1.slots) := by
  obtain ⟨S_REALIZABLE, S_UNREALIZABLE, ne_REALIZABLE_UNREALIZABLE, S_SW, F_REALIZABLE_ordinal, E_REALIZABLE, A_SW, in_SW_0, at_SW_0, F_UNREALIZABLE_ordinal, E_UNREALIZABLE, in_SW_1, at_SW_1, S_VACUOUS, ne_UNREALIZABLE_VACUOUS, F_VACUOUS_ordinal, E_VACUOUS, in_SW_2, at_SW_2⟩ := id K
  refine MetFree.of_bodySF (plainFor_of_name pn3) hisR ?_
  intro p e s m args below meth c s₁ Bd hml0 hP hK
  obtain ⟨rfl, hZ, hh⟩ := hP
  have hx := Bd.exec
  have hby := Bd.bytes
  have hml : c.maxLocals = 6 := hml0
  have hown : s.vm.findClass "com/example/unruly_environment/unrulyenvironment/cli/ExitCodesOfSearchPinLaw" = some m.cls := findClass_of_methodNamed Bd.named
  have X0 : Stand p l e room_1 s m #[(.int p0), (.int p1)] below meth c s₁ [] 0 0 := Stand.of_body Bd
  have e0 : s₁.heap = h0 := by rw [← hh, Bd.state]; rfl
  have N0 := Fr.nil n0
  have pre0 : ∀ t, Steps p.tables e below (s₁.setTop (mkF m 0 #[.val (.int p0), .val (.int p1), .unset, .unset, .unset, .unset] [])) t → Steps p.tables e below (s₁.setTop (entryFrame m #[(.int p0), (.int p1)] maxLocals)) t := fun t k => castTop (by first | (simp [entryFrame, mkF, argsToLocals, Value.category, maxLocals]; done) | rfl) k
  obtain ⟨T1, X1, e1, st1⟩ := getS X0 hx hZ hown (host := "") (hw _ (List.mem_of_getElem? (i := 25) rfl)) Via.refl e0 S_VACUOUS (g := (mkF m 60 #[.val (.int p0), .val (.int p1), .val (.int (2 : Int32)), .val (.int (0 : Int32)), .unset, .unset] [])) rfl (hb hby at_60)
  obtain ⟨_, _, ⟨T2, L2, k2, n2⟩, -, X2, ⟨Lc2, hQ2, l2, y2, z2⟩, st2⟩ := Jvm.LawKit.callS X1 hx (y := (⟨"com/example/unruly_environment/unrulyenvironment/cli/ExitCodes", "ofSearch", "(Lcom/example/unruly_environment/unrulyenvironment/game/Verdict;Z)I"⟩ : MethodName)) hown (mvT hZ (hw _ (List.mem_of_getElem? (i := 4) rfl))) (mvT hZ (hw _ (List.mem_of_getElem? (i := 5) rfl))) (mvT hZ (hw _ (List.mem_of_getElem? (i := 6) rfl))) (mvT hZ (hw _ (List.mem_of_getElem? (i := 7) rfl))) (by decide) (backOf (W := 0) (r14 l Z a0 hw [] h0 n0 s_REALIZABLE s_UNREALIZABLE s_SW s_VACUOUS c_SW K) hZ (hw _ (List.mem_of_getElem? (i := 7) rfl)) (hw _ (List.mem_of_getElem? (i := 6) rfl)) (by decide) (by decide)) (g := (mkF m 71 #[.val (.int p0), .val (.int p1), .val (.int (2 : Int32)), .val (.int (0 : Int32)), .val (.ref s_VACUOUS), .val (.int (3 : Int32))] [(.int (0 : Int32)), (.ref s_VACUOUS)])) rfl (by rw [hml]; rfl) (argsL := [(.ref s_VACUOUS), (.int (0 : Int32))]) (rest := []) (lenOf pd2 rfl) rfl (by show 2 * 0 + _ ≤ _; exact Nat.le_of_eq rfl) (hb hby at_71) (fun _ _ => ⟨rfl, e1, (by decide : 0 + 0 ≤ _), (by decide : 0 + 0 ≤ _)⟩)
  dsimp only [Pt.U, Pt.locs, Pt.cells, Pt.slots] at X2 l2 y2 z2 st2 hQ2
  subst l2 y2 z2
  obtain ⟨rfl, N2q, e2⟩ := hQ2
  have N2 := Fr.app N0 N2q
  obtain ⟨fs, hr, hrun, hended, hW, hsame⟩ := X2.leave (v := some (.int (1 : Int32))) (fun h => by rw [Bd.returns] at h; cases h)
  refine ⟨_, _, pre0 _ ?_, hrun, hended, _, _, rfl, ?_, ⟨_, rfl⟩, hW, hsame.mono (by decide) (by decide)⟩
  · show Steps p.tables e below (s₁.setTop (mkF m 0 #[.val (.int p0), .val (.int p1), .unset, .unset, .unset, .unset] [])) _
    refine XS.iloadN X0.here hx rfl (hb hby at_0) rfl ?_
    show Steps p.tables e below (s₁.setTop (mkF m 1 #[.val (.int p0), .val (.int p1), .unset, .unset, .unset, .unset] [(.int p0)])) _
    refine X0.ldcInt hx hown (mvT hZ (hw _ (List.mem_of_getElem? (i := 0) rfl))) (g := (mkF m 1 #[.val (.int p0), .val (.int p1), .unset, .unset, .unset, .unset] [(.int p0)])) rfl (hb hby at_1) _ ?_
    show Steps p.tables e below (s₁.setTop (mkF m 3 #[.val (.int p0), .val (.int p1), .unset, .unset, .unset, .unset] [(.int (2147483647 : Int32)), (.int p0)])) _
    refine XS.iand X0.here hx rfl (hb hby at_3) rfl ?_
    show Steps p.tables e below (s₁.setTop (mkF m 4 #[.val (.int p0), .val (.int p1), .unset, .unset, .unset, .unset] [(.int (p0 &&& (2147483647 : Int32)))])) _
    refine XS.iconst X0.here hx rfl (hb hby at_4) ?_
    show Steps p.tables e below (s₁.setTop (mkF m 5 #[.val (.int p0), .val (.int p1), .unset, .unset, .unset, .unset] [(.int (3 : Int32)), (.int (p0 &&& (2147483647 : Int32)))])) _
    refine Jvm.RoadKit.iremM X0 hx rfl (hb hby at_5) rfl (by decide) ?_
    show Steps p.tables e below (s₁.setTop (mkF m 6 #[.val (.int p0), .val (.int p1), .unset, .unset, .unset, .unset] [(.int ((p0 &&& (2147483647 : Int32)) % (3 : Int32)))])) _
    rw [hp0]
    show Steps p.tables e below (s₁.setTop (mkF m 6 #[.val (.int p0), .val (.int p1), .unset, .unset, .unset, .unset] [(.int (2 : Int32))])) _
    refine XS.istoreN X0.here hx rfl (hb hby at_6) rfl (l' := #[.val (.int p0), .val (.int p1), .val (.int (2 : Int32)), .unset, .unset, .unset]) rfl ?_
    show Steps p.tables e below (s₁.setTop (mkF m 7 #[.val (.int p0), .val (.int p1), .val (.int (2 : Int32)), .unset, .unset, .unset] [])) _
    refine XS.iloadN X0.here hx rfl (hb hby at_7) rfl ?_
    show Steps p.tables e below (s₁.setTop (mkF m 8 #[.val (.int p0), .val (.int p1), .val (.int (2 : Int32)), .unset, .unset, .unset] [(.int p1)])) _
    refine XS.iconst X0.here hx rfl (hb hby at_8) ?_
    show Steps p.tables e below (s₁.setTop (mkF m 9 #[.val (.int p0), .val (.int p1), .val (.int (2 : Int32)), .unset, .unset, .unset] [(.int (1 : Int32)), (.int p1)])) _
    refine XS.iand X0.here hx rfl (hb hby at_9) rfl ?_
    show Steps p.tables e below (s₁.setTop (mkF m 10 #[.val (.int p0), .val (.int p1), .val (.int (2 : Int32)), .unset, .unset, .unset] [(.int (p1 &&& (1 : Int32)))])) _
    rw [hp1]
    show Steps p.tables e below (s₁.setTop (mkF m 10 #[.val (.int p0), .val (.int p1), .val (.int (2 : Int32)), .unset, .unset, .unset] [(.int (0 : Int32))])) _
    refine XS.ifYes X0.here hx rfl (pc0 := 10) (pc' := 17) rfl (hb hby at_10) rfl (by decide +kernel) (by decide) (by decide) ?_
    show Steps p.tables e below (s₁.setTop (mkF m 17 #[.val (.int p0), .val (.int p1), .val (.int (2 : Int32)), .unset, .unset, .unset] [])) _
    refine XS.iconst X0.here hx rfl (hb hby at_17) ?_
    show Steps p.tables e below (s₁.setTop (mkF m 18 #[.val (.int p0), .val (.int p1), .val (.int (2 : Int32)), .unset, .unset, .unset] [(.int (0 : Int32))])) _
    refine XS.istoreN X0.here hx rfl (hb hby at_18) rfl (l' := #[.val (.int p0), .val (.int p1), .val (.int (2 : Int32)), .val (.int (0 : Int32)), .unset, .unset]) rfl ?_
    show Steps p.tables e below (s₁.setTop (mkF m 19 #[.val (.int p0), .val (.int p1), .val (.int (2 : Int32)), .val (.int (0 : Int32)), .unset, .unset] [])) _
    refine XS.iloadN X0.here hx rfl (hb hby at_19) rfl ?_
    show Steps p.tables e below (s₁.setTop (mkF m 20 #[.val (.int p0), .val (.int p1), .val (.int (2 : Int32)), .val (.int (0 : Int32)), .unset, .unset] [(.int (2 : Int32))])) _
    refine XS.ifYes X0.here hx rfl (pc0 := 20) (pc' := 34) rfl (hb hby at_20) rfl (by decide +kernel) (by decide) (by decide) ?_
    show Steps p.tables e below (s₁.setTop (mkF m 34 #[.val (.int p0), .val (.int p1), .val (.int (2 : Int32)), .val (.int (0 : Int32)), .unset, .unset] [])) _
    refine XS.iloadN X0.here hx rfl (hb hby at_34) rfl ?_
    show Steps p.tables e below (s₁.setTop (mkF m 35 #[.val (.int p0), .val (.int p1), .val (.int (2 : Int32)), .val (.int (0 : Int32)), .unset, .unset] [(.int (2 : Int32))])) _
    refine XS.iconst X0.here hx rfl (hb hby at_35) ?_
    show Steps p.tables e below (s₁.setTop (mkF m 36 #[.val (.int p0), .val (.int p1), .val (.int (2 : Int32)), .val (.int (0 : Int32)), .unset, .unset] [(.int (1 : Int32)), (.int (2 : Int32))])) _
    refine XS.icmpYes X0.here hx rfl (pc0 := 36) (pc' := 60) rfl (hb hby at_36) rfl (by decide +kernel) (by decide) (by decide) ?_
    show Steps p.tables e below (s₁.setTop (mkF m 60 #[.val (.int p0), .val (.int p1), .val (.int (2 : Int32)), .val (.int (0 : Int32)), .unset, .unset] [])) _
    refine st1 _ ?_
    show Steps p.tables e below (T1.setTop (mkF m 63 #[.val (.int p0), .val (.int p1), .val (.int (2 : Int32)), .val (.int (0 : Int32)), .unset, .unset] [(.ref s_VACUOUS)])) _
    refine XS.astore X1.here hx rfl (hb hby at_63) rfl rfl (l' := #[.val (.int p0), .val (.int p1), .val (.int (2 : Int32)), .val (.int (0 : Int32)), .val (.ref s_VACUOUS), .unset]) rfl ?_
    show Steps p.tables e below (T1.setTop (mkF m 65 #[.val (.int p0), .val (.int p1), .val (.int (2 : Int32)), .val (.int (0 : Int32)), .val (.ref s_VACUOUS), .unset] [])) _
    refine XS.iconst X1.here hx rfl (hb hby at_65) ?_
    show Steps p.tables e below (T1.setTop (mkF m 66 #[.val (.int p0), .val (.int p1), .val (.int (2 : Int32)), .val (.int (0 : Int32)), .val (.ref s_VACUOUS), .unset] [(.int (3 : Int32))])) _
    refine XS.istore X1.here hx rfl (hb hby at_66) rfl (l' := #[.val (.int p0), .val (.int p1), .val (.int (2 : Int32)), .val (.int (0 : Int32)), .val (.ref s_VACUOUS), .val (.int (3 : Int32))]) rfl ?_
    show Steps p.tables e below (T1.setTop (mkF m 68 #[.val (.int p0), .val (.int p1), .val (.int (2 : Int32)), .val (.int (0 : Int32)), .val (.ref s_VACUOUS), .val (.int (3 : Int32))] [])) _
    refine XS.aload X1.here hx rfl (hb hby at_68) rfl rfl ?_
    show Steps p.tables e below (T1.setTop (mkF m 70 #[.val (.int p0), .val (.int p1), .val (.int (2 : Int32)), .val (.int (0 : Int32)), .val (.ref s_VACUOUS), .val (.int (3 : Int32))] [(.ref s_VACUOUS)])) _
    refine XS.iloadN X1.here hx rfl (hb hby at_70) rfl ?_
    show Steps p.tables e below (T1.setTop (mkF m 71 #[.val (.int p0), .val (.int p1), .val (.int (2 : Int32)), .val (.int (0 : Int32)), .val (.ref s_VACUOUS), .val (.int (3 : Int32))] [(.int (0 : Int32)), (.ref s_VACUOUS)])) _
    refine st2 _ ?_
    show Steps p.tables e below (T2.setTop (mkF m 74 #[.val (.int p0), .val (.int p1), .val (.int (2 : Int32)), .val (.int (0 : Int32)), .val (.ref s_VACUOUS), .val (.int (3 : Int32))] [(.int (3 : Int32))])) _
    refine XS.iload X2.here hx rfl (hb hby at_74) rfl ?_
    show Steps p.tables e below (T2.setTop (mkF m 76 #[.val (.int p0), .val (.int p1), .val (.int (2 : Int32)), .val (.int (0 : Int32)), .val (.ref s_VACUOUS), .val (.int (3 : Int32))] [(.int (3 : Int32)), (.int (3 : Int32))])) _
    refine XS.icmpNo X2.here hx rfl (hb hby at_76) rfl (by decide +kernel) ?_
    show Steps p.tables e below (T2.setTop (mkF m 79 #[.val (.int p0), .val (.int p1), .val (.int (2 : Int32)), .val (.int (0 : Int32)), .val (.ref s_VACUOUS), .val (.int (3 : Int32))] [])) _
    refine XS.iconst X2.here hx rfl (hb hby at_79) ?_
    show Steps p.tables e below (T2.setTop (mkF m 80 #[.val (.int p0), .val (.int p1), .val (.int (2 : Int32)), .val (.int (0 : Int32)), .val (.ref s_VACUOUS), .val (.int (3 : Int32))] [(.int (1 : Int32))])) _
    refine XS.goto X2.here hx rfl (pc0 := 80) (pc' := 84) rfl (hb hby at_80) (by decide) (by decide) ?_
    show Steps p.tables e below (T2.setTop (mkF m 84 #[.val (.int p0), .val (.int p1), .val (.int (2 : Int32)), .val (.int (0 : Int32)), .val (.ref s_VACUOUS), .val (.int (3 : Int32))] [(.int (1 : Int32))])) _
    exact retN X2 hx (t := .boolean) Bd.returns (by simp) (hb hby at_84) hr
  · exact ⟨rfl, N2, e2⟩
set_option maxRecDepth 65536 in
set_option maxHeartbeats 40000000 in
theorem r16 (l : Launch) (Z : State) (a0 : Array Value) (hw : ∀ d ∈ tables_1, d.before a0 Z = true) (ws : List Jvm.Cond) (h0 : Heap) (n0 : Nat) (s_REALIZABLE : Addr) (s_UNREALIZABLE : Addr) (s_SW : Addr) (s_VACUOUS : Addr) (c_SW : Cell) (K : Ctx Z h0 s_REALIZABLE s_UNREALIZABLE s_SW s_VACUOUS c_SW) :
    MetFree l (⟨"com/example/unruly_environment/unrulyenvironment/cli/ExitCodes", "ofSearch", "(Lcom/example/unruly_environment/unrulyenvironment/game/Verdict;Z)I"⟩ : MethodName) (head1 (Jvm.Cond.code (⟨"com/example/unruly_environment/unrulyenvironment/cli/ExitCodes", "ofSearch", "(Lcom/example/unruly_environment/unrulyenvironment/game/Verdict;Z)I"⟩ : MethodName) prog_29_method_4_code 2 (some .int) :: ws) ({ frames := 2, cells := 0, slots := 0, locals := 25 } : Room)) (fun a U => a = #[(.ref s_VACUOUS), (.int (1 : Int32))] ∧ Z.Warmed39 U.vm ∧ U.heap = h0) (fun _ _ _ _ _ => True) (fun _ U o U' => ∃ v L, o = .returned v ∧ QV (.int (3 : Int32)) h0 n0 v U'.heap L ∧ FrameEnd U o U' L ({ frames := 2, cells := 0, slots := 0, locals := 25 } : Room).cells ({ frames := 2, cells := 0, slots := 0, locals := 25 } : Room).slots) := by
  obtain ⟨S_REALIZABLE, S_UNREALIZABLE, ne_REALIZABLE_UNREALIZABLE, S_SW, F_REALIZABLE_ordinal, E_REALIZABLE, A_SW, in_SW_0, at_SW_0, F_UNREALIZABLE_ordinal, E_UNREALIZABLE, in_SW_1, at_SW_1, S_VACUOUS, ne_UNREALIZABLE_VACUOUS, F_VACUOUS_ordinal, E_VACUOUS, in_SW_2, at_SW_2⟩ := id K
  refine MetFree.of_bodySF (plainFor_of_name pn0) hisR ?_
  intro p e s m args below meth c s₁ Bd hml0 hP hK
  obtain ⟨rfl, hZ, hh⟩ := hP
  have hx := Bd.exec
  have hby := Bd.bytes
  have hml : c.maxLocals = 2 := hml0
  have hown : s.vm.findClass "com/example/unruly_environment/unrulyenvironment/cli/ExitCodes" = some m.cls := findClass_of_methodNamed Bd.named
  have X0 : Stand p l e ({ frames := 2, cells := 0, slots := 0, locals := 25 } : Room) s m #[(.ref s_VACUOUS), (.int (1 : Int32))] below meth c s₁ [] 0 0 := Stand.of_body Bd
  have e0 : s₁.heap = h0 := by rw [← hh, Bd.state]; rfl
  have N0 := Fr.nil n0
  have pre0 : ∀ t, Steps p.tables e below (s₁.setTop (mkF m 0 #[.val (.ref s_VACUOUS), .val (.int (1 : Int32))] [])) t → Steps p.tables e below (s₁.setTop (entryFrame m #[(.ref s_VACUOUS), (.int (1 : Int32))] 2)) t := fun t k => castTop (by first | (simp [entryFrame, mkF, argsToLocals, Value.category]; done) | rfl) k
  obtain ⟨T1, X1, e1, st1⟩ := getS X0 hx hZ hown (host := "") (hw _ (List.mem_of_getElem? (i := 8) rfl)) Via.refl e0 S_UNREALIZABLE (g := (mkF m 1 #[.val (.ref s_VACUOUS), .val (.int (1 : Int32))] [(.ref s_VACUOUS)])) rfl (hb hby d0_1)
  obtain ⟨_, _, ⟨T2, L2, k2, n2⟩, -, X2, ⟨Lc2, hQ2, l2, y2, z2⟩, st2⟩ := Jvm.LawKit.callS X1 hx (y := (⟨"com/example/unruly_environment/unrulyenvironment/cli/ExitCodes", "ofExplanation", "(Lcom/example/unruly_environment/unrulyenvironment/game/Verdict;)I"⟩ : MethodName)) hown (mvT hZ (hw _ (List.mem_of_getElem? (i := 10) rfl))) (mvT hZ (hw _ (List.mem_of_getElem? (i := 11) rfl))) (mvT hZ (hw _ (List.mem_of_getElem? (i := 6) rfl))) (mvT hZ (hw _ (List.mem_of_getElem? (i := 12) rfl))) (by decide) (backOf (W := 0) (r13 l Z a0 hw [] h0 n0 s_REALIZABLE s_UNREALIZABLE s_SW s_VACUOUS c_SW K) hZ (hw _ (List.mem_of_getElem? (i := 12) rfl)) (hw _ (List.mem_of_getElem? (i := 6) rfl)) (by decide) (by decide)) (g := (mkF m 14 #[.val (.ref s_VACUOUS), .val (.int (1 : Int32))] [(.ref s_VACUOUS)])) rfl (by rw [hml]; rfl) (argsL := [(.ref s_VACUOUS)]) (rest := []) (lenOf pd1 rfl) rfl (by show 2 * 0 + _ ≤ _; exact Nat.le_of_eq rfl) (hb hby d0_14) (fun _ _ => ⟨rfl, e1, (by decide : 0 + 0 ≤ _), (by decide : 0 + 0 ≤ _)⟩)
  dsimp only [Pt.U, Pt.locs, Pt.cells, Pt.slots] at X2 l2 y2 z2 st2 hQ2
  subst l2 y2 z2
  obtain ⟨rfl, N2q, e2⟩ := hQ2
  have N2 := Fr.app N0 N2q
  obtain ⟨fs, hr, hrun, hended, hW, hsame⟩ := X2.leave (v := some (.int (3 : Int32))) (fun h => by rw [Bd.returns] at h; cases h)
  refine ⟨_, _, pre0 _ ?_, hrun, hended, _, _, rfl, ?_, ⟨_, rfl⟩, hW, hsame.mono (by decide) (by decide)⟩
  · show Steps p.tables e below (s₁.setTop (mkF m 0 #[.val (.ref s_VACUOUS), .val (.int (1 : Int32))] [])) _
    refine XS.aloadN X0.here hx rfl (hb hby d0_0) rfl rfl ?_
    show Steps p.tables e below (s₁.setTop (mkF m 1 #[.val (.ref s_VACUOUS), .val (.int (1 : Int32))] [(.ref s_VACUOUS)])) _
    refine st1 _ ?_
    show Steps p.tables e below (T1.setTop (mkF m 4 #[.val (.ref s_VACUOUS), .val (.int (1 : Int32))] [(.ref s_UNREALIZABLE), (.ref s_VACUOUS)])) _
    refine Jvm.RoadKit.acmp (g := (mkF m 4 #[.val (.ref s_VACUOUS), .val (.int (1 : Int32))] [(.ref s_UNREALIZABLE), (.ref s_VACUOUS)])) X1 hx rfl rfl rfl (pc0 := 4) (pc' := 13) (same := false) rfl (hb hby d0_4) rfl (decide_eq_false fun q => (Ne.symm ne_UNREALIZABLE_VACUOUS) (Value.ref.inj q)) (by decide) (by decide) ?_
    show Steps p.tables e below (T1.setTop (mkF m 13 #[.val (.ref s_VACUOUS), .val (.int (1 : Int32))] [])) _
    refine XS.aloadN X1.here hx rfl (hb hby d0_13) rfl rfl ?_
    show Steps p.tables e below (T1.setTop (mkF m 14 #[.val (.ref s_VACUOUS), .val (.int (1 : Int32))] [(.ref s_VACUOUS)])) _
    refine st2 _ ?_
    show Steps p.tables e below (T2.setTop (mkF m 17 #[.val (.ref s_VACUOUS), .val (.int (1 : Int32))] [(.int (3 : Int32))])) _
    exact retOut X2 hx (i := .ireturn) Bd.returns rfl (Or.inl ⟨rfl, Or.inl rfl, _, rfl⟩) (hb hby d0_17) hr
  · exact ⟨rfl, N2, e2⟩
set_option maxRecDepth 65536 in
set_option maxHeartbeats 40000000 in
theorem law_k2_1 (l : Launch) (Z : State) (a0 : Array Value) (hw : ∀ d ∈ tables_1, d.before a0 Z = true) (ws : List Jvm.Cond) (h0 : Heap) (n0 : Nat) (s_REALIZABLE : Addr) (s_UNREALIZABLE : Addr) (s_SW : Addr) (s_VACUOUS : Addr) (c_SW : Cell) (K : Ctx Z h0 s_REALIZABLE s_UNREALIZABLE s_SW s_VACUOUS c_SW) (p0 : Int32) (p1 : Int32) (hp0 : ((p0 &&& (2147483647 : Int32)) % (3 : Int32)) = (2 : Int32)) (hp1 : (p1 &&& (1 : Int32)) = (1 : Int32)) :
    MetFree l x (head1 (Jvm.Cond.code x code maxLocals ret :: ws) room_1) (fun a U => a = #[(.int p0), (.int p1)] ∧ Z.Warmed39 U.vm ∧ U.heap = h0) (fun _ _ _ _ _ => True) (fun _ U o U' => ∃ v L, o = .returned v ∧ QV (.int (1 : Int32)) h0 n0 v U'.heap L ∧ FrameEnd U o U' L room_1.cells room_1.slots) := by
  obtain ⟨S_REALIZABLE, S_UNREALIZABLE, ne_REALIZABLE_UNREALIZABLE, S_SW, F_REALIZABLE_ordinal, E_REALIZABLE, A_SW, in_SW_0, at_SW_0, F_UNREALIZABLE_ordinal, E_UNREALIZABLE, in_SW_1, at_SW_1, S_VACUOUS, ne_UNREALIZABLE_VACUOUS, F_VACUOUS_ordinal, E_VACUOUS, in_SW_2, at_SW_2⟩ := id K
  refine MetFree.of_bodySF (plainFor_of_name pn3) hisR ?_
  intro p e s m args below meth c s₁ Bd hml0 hP hK
  obtain ⟨rfl, hZ, hh⟩ := hP
  have hx := Bd.exec
  have hby := Bd.bytes
  have hml : c.maxLocals = 6 := hml0
  have hown : s.vm.findClass "com/example/unruly_environment/unrulyenvironment/cli/ExitCodesOfSearchPinLaw" = some m.cls := findClass_of_methodNamed Bd.named
  have X0 : Stand p l e room_1 s m #[(.int p0), (.int p1)] below meth c s₁ [] 0 0 := Stand.of_body Bd
  have e0 : s₁.heap = h0 := by rw [← hh, Bd.state]; rfl
  have N0 := Fr.nil n0
  have pre0 : ∀ t, Steps p.tables e below (s₁.setTop (mkF m 0 #[.val (.int p0), .val (.int p1), .unset, .unset, .unset, .unset] [])) t → Steps p.tables e below (s₁.setTop (entryFrame m #[(.int p0), (.int p1)] maxLocals)) t := fun t k => castTop (by first | (simp [entryFrame, mkF, argsToLocals, Value.category, maxLocals]; done) | rfl) k
  obtain ⟨T1, X1, e1, st1⟩ := getS X0 hx hZ hown (host := "") (hw _ (List.mem_of_getElem? (i := 25) rfl)) Via.refl e0 S_VACUOUS (g := (mkF m 60 #[.val (.int p0), .val (.int p1), .val (.int (2 : Int32)), .val (.int (1 : Int32)), .unset, .unset] [])) rfl (hb hby at_60)
  obtain ⟨_, _, ⟨T2, L2, k2, n2⟩, -, X2, ⟨Lc2, hQ2, l2, y2, z2⟩, st2⟩ := Jvm.LawKit.callS X1 hx (y := (⟨"com/example/unruly_environment/unrulyenvironment/cli/ExitCodes", "ofSearch", "(Lcom/example/unruly_environment/unrulyenvironment/game/Verdict;Z)I"⟩ : MethodName)) hown (mvT hZ (hw _ (List.mem_of_getElem? (i := 4) rfl))) (mvT hZ (hw _ (List.mem_of_getElem? (i := 5) rfl))) (mvT hZ (hw _ (List.mem_of_getElem? (i := 6) rfl))) (mvT hZ (hw _ (List.mem_of_getElem? (i := 7) rfl))) (by decide) (backOf (W := 0) (r16 l Z a0 hw [] h0 n0 s_REALIZABLE s_UNREALIZABLE s_SW s_VACUOUS c_SW K) hZ (hw _ (List.mem_of_getElem? (i := 7) rfl)) (hw _ (List.mem_of_getElem? (i := 6) rfl)) (by decide) (by decide)) (g := (mkF m 71 #[.val (.int p0), .val (.int p1), .val (.int (2 : Int32)), .val (.int (1 : Int32)), .val (.ref s_VACUOUS), .val (.int (3 : Int32))] [(.int (1 : Int32)), (.ref s_VACUOUS)])) rfl (by rw [hml]; rfl) (argsL := [(.ref s_VACUOUS), (.int (1 : Int32))]) (rest := []) (lenOf pd2 rfl) rfl (by show 2 * 0 + _ ≤ _; exact Nat.le_of_eq rfl) (hb hby at_71) (fun _ _ => ⟨rfl, e1, (by decide : 0 + 0 ≤ _), (by decide : 0 + 0 ≤ _)⟩)
  dsimp only [Pt.U, Pt.locs, Pt.cells, Pt.slots] at X2 l2 y2 z2 st2 hQ2
  subst l2 y2 z2
  obtain ⟨rfl, N2q, e2⟩ := hQ2
  have N2 := Fr.app N0 N2q
  obtain ⟨fs, hr, hrun, hended, hW, hsame⟩ := X2.leave (v := some (.int (1 : Int32))) (fun h => by rw [Bd.returns] at h; cases h)
  refine ⟨_, _, pre0 _ ?_, hrun, hended, _, _, rfl, ?_, ⟨_, rfl⟩, hW, hsame.mono (by decide) (by decide)⟩
  · show Steps p.tables e below (s₁.setTop (mkF m 0 #[.val (.int p0), .val (.int p1), .unset, .unset, .unset, .unset] [])) _
    refine XS.iloadN X0.here hx rfl (hb hby at_0) rfl ?_
    show Steps p.tables e below (s₁.setTop (mkF m 1 #[.val (.int p0), .val (.int p1), .unset, .unset, .unset, .unset] [(.int p0)])) _
    refine X0.ldcInt hx hown (mvT hZ (hw _ (List.mem_of_getElem? (i := 0) rfl))) (g := (mkF m 1 #[.val (.int p0), .val (.int p1), .unset, .unset, .unset, .unset] [(.int p0)])) rfl (hb hby at_1) _ ?_
    show Steps p.tables e below (s₁.setTop (mkF m 3 #[.val (.int p0), .val (.int p1), .unset, .unset, .unset, .unset] [(.int (2147483647 : Int32)), (.int p0)])) _
    refine XS.iand X0.here hx rfl (hb hby at_3) rfl ?_
    show Steps p.tables e below (s₁.setTop (mkF m 4 #[.val (.int p0), .val (.int p1), .unset, .unset, .unset, .unset] [(.int (p0 &&& (2147483647 : Int32)))])) _
    refine XS.iconst X0.here hx rfl (hb hby at_4) ?_
    show Steps p.tables e below (s₁.setTop (mkF m 5 #[.val (.int p0), .val (.int p1), .unset, .unset, .unset, .unset] [(.int (3 : Int32)), (.int (p0 &&& (2147483647 : Int32)))])) _
    refine Jvm.RoadKit.iremM X0 hx rfl (hb hby at_5) rfl (by decide) ?_
    show Steps p.tables e below (s₁.setTop (mkF m 6 #[.val (.int p0), .val (.int p1), .unset, .unset, .unset, .unset] [(.int ((p0 &&& (2147483647 : Int32)) % (3 : Int32)))])) _
    rw [hp0]
    show Steps p.tables e below (s₁.setTop (mkF m 6 #[.val (.int p0), .val (.int p1), .unset, .unset, .unset, .unset] [(.int (2 : Int32))])) _
    refine XS.istoreN X0.here hx rfl (hb hby at_6) rfl (l' := #[.val (.int p0), .val (.int p1), .val (.int (2 : Int32)), .unset, .unset, .unset]) rfl ?_
    show Steps p.tables e below (s₁.setTop (mkF m 7 #[.val (.int p0), .val (.int p1), .val (.int (2 : Int32)), .unset, .unset, .unset] [])) _
    refine XS.iloadN X0.here hx rfl (hb hby at_7) rfl ?_
    show Steps p.tables e below (s₁.setTop (mkF m 8 #[.val (.int p0), .val (.int p1), .val (.int (2 : Int32)), .unset, .unset, .unset] [(.int p1)])) _
    refine XS.iconst X0.here hx rfl (hb hby at_8) ?_
    show Steps p.tables e below (s₁.setTop (mkF m 9 #[.val (.int p0), .val (.int p1), .val (.int (2 : Int32)), .unset, .unset, .unset] [(.int (1 : Int32)), (.int p1)])) _
    refine XS.iand X0.here hx rfl (hb hby at_9) rfl ?_
    show Steps p.tables e below (s₁.setTop (mkF m 10 #[.val (.int p0), .val (.int p1), .val (.int (2 : Int32)), .unset, .unset, .unset] [(.int (p1 &&& (1 : Int32)))])) _
    rw [hp1]
    show Steps p.tables e below (s₁.setTop (mkF m 10 #[.val (.int p0), .val (.int p1), .val (.int (2 : Int32)), .unset, .unset, .unset] [(.int (1 : Int32))])) _
    refine XS.ifNo X0.here hx rfl (hb hby at_10) rfl (by decide +kernel) ?_
    show Steps p.tables e below (s₁.setTop (mkF m 13 #[.val (.int p0), .val (.int p1), .val (.int (2 : Int32)), .unset, .unset, .unset] [])) _
    refine XS.iconst X0.here hx rfl (hb hby at_13) ?_
    show Steps p.tables e below (s₁.setTop (mkF m 14 #[.val (.int p0), .val (.int p1), .val (.int (2 : Int32)), .unset, .unset, .unset] [(.int (1 : Int32))])) _
    refine XS.goto X0.here hx rfl (pc0 := 14) (pc' := 18) rfl (hb hby at_14) (by decide) (by decide) ?_
    show Steps p.tables e below (s₁.setTop (mkF m 18 #[.val (.int p0), .val (.int p1), .val (.int (2 : Int32)), .unset, .unset, .unset] [(.int (1 : Int32))])) _
    refine XS.istoreN X0.here hx rfl (hb hby at_18) rfl (l' := #[.val (.int p0), .val (.int p1), .val (.int (2 : Int32)), .val (.int (1 : Int32)), .unset, .unset]) rfl ?_
    show Steps p.tables e below (s₁.setTop (mkF m 19 #[.val (.int p0), .val (.int p1), .val (.int (2 : Int32)), .val (.int (1 : Int32)), .unset, .unset] [])) _
    refine XS.iloadN X0.here hx rfl (hb hby at_19) rfl ?_
    show Steps p.tables e below (s₁.setTop (mkF m 20 #[.val (.int p0), .val (.int p1), .val (.int (2 : Int32)), .val (.int (1 : Int32)), .unset, .unset] [(.int (2 : Int32))])) _
    refine XS.ifYes X0.here hx rfl (pc0 := 20) (pc' := 34) rfl (hb hby at_20) rfl (by decide +kernel) (by decide) (by decide) ?_
    show Steps p.tables e below (s₁.setTop (mkF m 34 #[.val (.int p0), .val (.int p1), .val (.int (2 : Int32)), .val (.int (1 : Int32)), .unset, .unset] [])) _
    refine XS.iloadN X0.here hx rfl (hb hby at_34) rfl ?_
    show Steps p.tables e below (s₁.setTop (mkF m 35 #[.val (.int p0), .val (.int p1), .val (.int (2 : Int32)), .val (.int (1 : Int32)), .unset, .unset] [(.int (2 : Int32))])) _
    refine XS.iconst X0.here hx rfl (hb hby at_35) ?_
    show Steps p.tables e below (s₁.setTop (mkF m 36 #[.val (.int p0), .val (.int p1), .val (.int (2 : Int32)), .val (.int (1 : Int32)), .unset, .unset] [(.int (1 : Int32)), (.int (2 : Int32))])) _
    refine XS.icmpYes X0.here hx rfl (pc0 := 36) (pc' := 60) rfl (hb hby at_36) rfl (by decide +kernel) (by decide) (by decide) ?_
    show Steps p.tables e below (s₁.setTop (mkF m 60 #[.val (.int p0), .val (.int p1), .val (.int (2 : Int32)), .val (.int (1 : Int32)), .unset, .unset] [])) _
    refine st1 _ ?_
    show Steps p.tables e below (T1.setTop (mkF m 63 #[.val (.int p0), .val (.int p1), .val (.int (2 : Int32)), .val (.int (1 : Int32)), .unset, .unset] [(.ref s_VACUOUS)])) _
    refine XS.astore X1.here hx rfl (hb hby at_63) rfl rfl (l' := #[.val (.int p0), .val (.int p1), .val (.int (2 : Int32)), .val (.int (1 : Int32)), .val (.ref s_VACUOUS), .unset]) rfl ?_
    show Steps p.tables e below (T1.setTop (mkF m 65 #[.val (.int p0), .val (.int p1), .val (.int (2 : Int32)), .val (.int (1 : Int32)), .val (.ref s_VACUOUS), .unset] [])) _
    refine XS.iconst X1.here hx rfl (hb hby at_65) ?_
    show Steps p.tables e below (T1.setTop (mkF m 66 #[.val (.int p0), .val (.int p1), .val (.int (2 : Int32)), .val (.int (1 : Int32)), .val (.ref s_VACUOUS), .unset] [(.int (3 : Int32))])) _
    refine XS.istore X1.here hx rfl (hb hby at_66) rfl (l' := #[.val (.int p0), .val (.int p1), .val (.int (2 : Int32)), .val (.int (1 : Int32)), .val (.ref s_VACUOUS), .val (.int (3 : Int32))]) rfl ?_
    show Steps p.tables e below (T1.setTop (mkF m 68 #[.val (.int p0), .val (.int p1), .val (.int (2 : Int32)), .val (.int (1 : Int32)), .val (.ref s_VACUOUS), .val (.int (3 : Int32))] [])) _
    refine XS.aload X1.here hx rfl (hb hby at_68) rfl rfl ?_
    show Steps p.tables e below (T1.setTop (mkF m 70 #[.val (.int p0), .val (.int p1), .val (.int (2 : Int32)), .val (.int (1 : Int32)), .val (.ref s_VACUOUS), .val (.int (3 : Int32))] [(.ref s_VACUOUS)])) _
    refine XS.iloadN X1.here hx rfl (hb hby at_70) rfl ?_
    show Steps p.tables e below (T1.setTop (mkF m 71 #[.val (.int p0), .val (.int p1), .val (.int (2 : Int32)), .val (.int (1 : Int32)), .val (.ref s_VACUOUS), .val (.int (3 : Int32))] [(.int (1 : Int32)), (.ref s_VACUOUS)])) _
    refine st2 _ ?_
    show Steps p.tables e below (T2.setTop (mkF m 74 #[.val (.int p0), .val (.int p1), .val (.int (2 : Int32)), .val (.int (1 : Int32)), .val (.ref s_VACUOUS), .val (.int (3 : Int32))] [(.int (3 : Int32))])) _
    refine XS.iload X2.here hx rfl (hb hby at_74) rfl ?_
    show Steps p.tables e below (T2.setTop (mkF m 76 #[.val (.int p0), .val (.int p1), .val (.int (2 : Int32)), .val (.int (1 : Int32)), .val (.ref s_VACUOUS), .val (.int (3 : Int32))] [(.int (3 : Int32)), (.int (3 : Int32))])) _
    refine XS.icmpNo X2.here hx rfl (hb hby at_76) rfl (by decide +kernel) ?_
    show Steps p.tables e below (T2.setTop (mkF m 79 #[.val (.int p0), .val (.int p1), .val (.int (2 : Int32)), .val (.int (1 : Int32)), .val (.ref s_VACUOUS), .val (.int (3 : Int32))] [])) _
    refine XS.iconst X2.here hx rfl (hb hby at_79) ?_
    show Steps p.tables e below (T2.setTop (mkF m 80 #[.val (.int p0), .val (.int p1), .val (.int (2 : Int32)), .val (.int (1 : Int32)), .val (.ref s_VACUOUS), .val (.int (3 : Int32))] [(.int (1 : Int32))])) _
    refine XS.goto X2.here hx rfl (pc0 := 80) (pc' := 84) rfl (hb hby at_80) (by decide) (by decide) ?_
    show Steps p.tables e below (T2.setTop (mkF m 84 #[.val (.int p0), .val (.int p1), .val (.int (2 : Int32)), .val (.int (1 : Int32)), .val (.ref s_VACUOUS), .val (.int (3 : Int32))] [(.int (1 : Int32))])) _
    exact retN X2 hx (t := .boolean) Bd.returns (by simp) (hb hby at_84) hr
  · exact ⟨rfl, N2, e2⟩
theorem rm0 (l : Launch) (Z : State) (a0 : Array Value) (hw : ∀ d ∈ tables_1, d.before a0 Z = true) (ws : List Jvm.Cond) (h0 : Heap) (n0 : Nat) (s_REALIZABLE : Addr) (s_UNREALIZABLE : Addr) (s_SW : Addr) (s_VACUOUS : Addr) (c_SW : Cell) (K : Ctx Z h0 s_REALIZABLE s_UNREALIZABLE s_SW s_VACUOUS c_SW) (p0 : Int32) (p1 : Int32) :
    MetFree l x (head1 (Jvm.Cond.code x code maxLocals ret :: ws) room_1) (fun a U => a = #[(.int p0), (.int p1)] ∧ Z.Warmed39 U.vm ∧ U.heap = h0) (fun _ _ _ _ _ => True) (fun _ U o U' => ∃ v L, o = .returned v ∧ QV (.int (1 : Int32)) h0 n0 v U'.heap L ∧ FrameEnd U o U' L room_1.cells room_1.slots) := by
  rcases own_mod3 p0 with hp0 | hp0 | hp0
  all_goals rcases own_and2 p1 with hp1 | hp1
  · exact law_k0_0 l Z a0 hw ws h0 n0 s_REALIZABLE s_UNREALIZABLE s_SW s_VACUOUS c_SW K p0 p1 hp0 hp1
  · exact law_k0_1 l Z a0 hw ws h0 n0 s_REALIZABLE s_UNREALIZABLE s_SW s_VACUOUS c_SW K p0 p1 hp0 hp1
  · exact law_k1_0 l Z a0 hw ws h0 n0 s_REALIZABLE s_UNREALIZABLE s_SW s_VACUOUS c_SW K p0 p1 hp0 hp1
  · exact law_k1_1 l Z a0 hw ws h0 n0 s_REALIZABLE s_UNREALIZABLE s_SW s_VACUOUS c_SW K p0 p1 hp0 hp1
  · exact law_k2_0 l Z a0 hw ws h0 n0 s_REALIZABLE s_UNREALIZABLE s_SW s_VACUOUS c_SW K p0 p1 hp0 hp1
  · exact law_k2_1 l Z a0 hw ws h0 n0 s_REALIZABLE s_UNREALIZABLE s_SW s_VACUOUS c_SW K p0 p1 hp0 hp1
set_option maxRecDepth 65536 in
set_option maxHeartbeats 40000000 in
theorem comes_1 {Post : Tables → Env → Array Value → State → Outcome → State → Prop} (hpost : ∀ tb e args s v u, (limb_1_1.after args s (.returned v) u = true ∧ limb_1_2.after args s (.returned v) u = true ∧ True) → FrameEnd s (.returned v) u (Jvm.fieldLocs frame_1_writes args s ++ Jvm.arrayLocs frame_1_arrays args s ++ Jvm.staticLocs frame_1_statics s) 0 0 → Post tb e args s (.returned v) u) :
    ArmFor flags0 classFile x code maxLocals ret World_1 tables_1 room_1 Calls_1 rest_1 Pre_1 Post := by
  intro l hfl _ _ p e ha hc hk s m args below hf hA hF happ hP
  obtain ⟨hcalls, hrest, hpre⟩ := hP
  obtain ⟨-, -, -, hnamed, -, -, -, hat⟩ := (Spec.applies_iff hf).mp happ
  obtain ⟨hg, hn⟩ := and_e (Cond.before_iff.mp (show (Jvm.Cond.and given_1 narrow_1).before args s = true from hpre))
  obtain ⟨g0, gr0⟩ := and_e hg
  obtain ⟨ga0, gr1⟩ := and_e gr0
  have ga1 := gr1
  obtain ⟨w0, w1, rfl⟩ : ∃ w0 w1 : Value, args = #[w0, w1] := by
    have hs : args.size = 2 := by simpa [Cond.value, given_1] using g0
    obtain ⟨L⟩ := args
    match L, hs with
    | [w0, w1], _ => exact ⟨w0, w1, rfl⟩
  have hw := fun d (hd : d ∈ tables_1) => atoms_spec (ws := Jvm.Cond.code x code maxLocals ret :: tables_1) hat d (List.mem_cons_of_mem _ hd)
  obtain ⟨p0, ei0⟩ := is_v ga0
  obtain rfl : w0 = (.int p0) := Option.some.inj ei0
  obtain ⟨p1, ei1⟩ := is_v ga1
  obtain rfl : w1 = (.int p1) := Option.some.inj ei1
  obtain ⟨hnl, hnr⟩ := and_e hn
  have n0 := hnl
  obtain ⟨hnrl, hnrr⟩ := and_e hnr
  have n1 := hnrl
  obtain ⟨hnrrl, hnrrr⟩ := and_e hnrr
  have n2 := hnrrl
  obtain ⟨hnrrrl, hnrrrr⟩ := and_e hnrrr
  have n3 := hnrrrl
  obtain ⟨hnrrrrl, hnrrrrr⟩ := and_e hnrrrr
  have n4 := hnrrrrl
  obtain ⟨hnrrrrrl, hnrrrrrr⟩ := and_e hnrrrrr
  have n5 := hnrrrrrl
  obtain ⟨hnrrrrrrl, hnrrrrrrr⟩ := and_e hnrrrrrr
  have n6 := hnrrrrrrl
  obtain ⟨hnrrrrrrrl, hnrrrrrrrr⟩ := and_e hnrrrrrrr
  have n7 := hnrrrrrrrl
  obtain ⟨hnrrrrrrrrl, hnrrrrrrrrr⟩ := and_e hnrrrrrrrr
  have n8 := hnrrrrrrrrl
  obtain ⟨hnrrrrrrrrrl, hnrrrrrrrrrr⟩ := and_e hnrrrrrrrrr
  have n9 := hnrrrrrrrrrl
  have n10 := hnrrrrrrrrrr
  obtain ⟨s_REALIZABLE, ev_REALIZABLE⟩ := exa_v n0
  have E_REALIZABLE := Exa.start ev_REALIZABLE n0
  have S_REALIZABLE := Sta.start ev_REALIZABLE (Or.inr ⟨(hw _ (List.mem_of_getElem? (i := 2) rfl)), (hw _ (List.mem_of_getElem? (i := 3) rfl))⟩)
  obtain ⟨s_UNREALIZABLE, ev_UNREALIZABLE⟩ := exa_v n1
  have E_UNREALIZABLE := Exa.start ev_UNREALIZABLE n1
  have S_UNREALIZABLE := Sta.start ev_UNREALIZABLE (Or.inr ⟨(hw _ (List.mem_of_getElem? (i := 2) rfl)), (hw _ (List.mem_of_getElem? (i := 9) rfl))⟩)
  obtain ⟨s_SW, ev_SW⟩ := arr_v n4
  obtain ⟨c_SW, A_SW⟩ := Arr.start ev_SW n4
  have S_SW := Sta.start ev_SW (Or.inr ⟨(hw _ (List.mem_of_getElem? (i := 14) rfl)), (hw _ (List.mem_of_getElem? (i := 15) rfl))⟩)
  obtain ⟨s_VACUOUS, ev_VACUOUS⟩ := exa_v n7
  have E_VACUOUS := Exa.start ev_VACUOUS n7
  have S_VACUOUS := Sta.start ev_VACUOUS (Or.inr ⟨(hw _ (List.mem_of_getElem? (i := 2) rfl)), (hw _ (List.mem_of_getElem? (i := 26) rfl))⟩)
  have o_REALIZABLE_ordinal := (fld_at ev_REALIZABLE).symm.trans (own_eqI n2)
  have F_REALIZABLE_ordinal := Fld.start o_REALIZABLE_ordinal
  have o_UNREALIZABLE_ordinal := (fld_at ev_UNREALIZABLE).symm.trans (own_eqI n3)
  have F_UNREALIZABLE_ordinal := Fld.start o_UNREALIZABLE_ordinal
  obtain ⟨in_SW_0, at_SW_0⟩ := elem_in (own_eqI n6) ev_SW (Term.int_eval (0)) A_SW.1
  have o_VACUOUS_ordinal := (fld_at ev_VACUOUS).symm.trans (own_eqI n8)
  have F_VACUOUS_ordinal := Fld.start o_VACUOUS_ordinal
  obtain ⟨in_SW_2, at_SW_2⟩ := elem_in (own_eqI n9) ev_SW (Term.int_eval (2)) A_SW.1
  obtain ⟨in_SW_1, at_SW_1⟩ := elem_in (own_eqI n10) ev_SW (Term.int_eval (1)) A_SW.1
  have ne_REALIZABLE_UNREALIZABLE : s_REALIZABLE ≠ s_UNREALIZABLE := own_ne o_REALIZABLE_ordinal o_UNREALIZABLE_ordinal (by decide)
  have ne_UNREALIZABLE_VACUOUS : s_UNREALIZABLE ≠ s_VACUOUS := own_ne o_UNREALIZABLE_ordinal o_VACUOUS_ordinal (by decide)
  obtain ⟨n, o, h1, h2, h3, _, L, rfl, ⟨rfl, N, _⟩, hq⟩ := rm0 l s _ hw tables_1 s.heap s.heap.size s_REALIZABLE s_UNREALIZABLE s_SW s_VACUOUS c_SW ⟨S_REALIZABLE, S_UNREALIZABLE, ne_REALIZABLE_UNREALIZABLE, S_SW, F_REALIZABLE_ordinal, E_REALIZABLE, A_SW, in_SW_0, at_SW_0, F_UNREALIZABLE_ordinal, E_UNREALIZABLE, in_SW_1, at_SW_1, S_VACUOUS, ne_UNREALIZABLE_VACUOUS, F_VACUOUS_ordinal, E_VACUOUS, in_SW_2, at_SW_2⟩ p0 p1 p e ha hc hk s m _ below hf ((Spec.applies_iff_loose hf).mp happ).1 ⟨rfl, State.Warmed39.refl s, rfl⟩ trivial
  refine ⟨n, _, h1, h2, h3, hpost _ _ _ _ _ _ ⟨Cond.after_iff.mpr rfl, Cond.after_iff.mpr (eq_i res_at (Term.int_eval (1)) rfl), trivial⟩ ⟨hq.1, hq.2.1, (hq.2.2.sift fun y hy => Or.inr (N y hy)).mono (by decide) (by decide)⟩⟩
theorem main_1_1 : Claimed_1_1 := comes_1 fun _ _ _ _ _ _ h hF => ⟨h.1, hF⟩
theorem main_1_2 : Claimed_1_2 := comes_1 fun _ _ _ _ _ _ h hF => ⟨h.2.1, hF⟩
end Jvm.Pilot.@@N@@
namespace Jvm.Pilot.@@N@@
open Jvm Jvm.ClassFile Sem Op Lib Jvm.Free Jvm.Stand Jvm.Pilot.@@N@@.Jvm.D
/-! MADE BY PROGRAM (witnessworld.py) out of the Statement's table words and the real class files: 14 classes; the members and pool entries that the words name. The judged class is class 1, her method 1. -/
namespace start1
open Jvm.ClassFile
def u (s : String) : CpInfo := .utf8 (stringToUtf16 s)
/-- a pool by its gaps: so many unusable entries, then the entry; so many at the end -/
def gap : Nat → List CpInfo → List CpInfo
  | 0, r => r
  | n + 1, r => .unusable :: gap n r
def poolList (es : List (Nat × CpInfo)) (last : Nat) : List CpInfo := es.foldr (fun e r => gap e.1 (e.2 :: r)) (gap last [])
def pool (es : List (Nat × CpInfo)) (last : Nat) : Array CpInfo := ⟨poolList es last⟩
def fileOf (pool : Array CpInfo) (this : Nat) (attrs : Array Attribute := #[]) (ms : Array MethodInfo := #[]) (fl : Nat := 33) (sup : Nat := 0) (ifs : Array Nat := #[]) (fds : Array FieldInfo := #[]) : ClassFile where
  minorVersion := 0
  majorVersion := 65
  constantPool := pool
  accessFlags := fl
  thisClass := this
  superClass := sup
  interfaces := ifs
  fields := fds
  methods := ms
  attributes := attrs
def plain (name : String) (sup : Option ClassId) : Class where
  name := name
  kind := .ordinary
  loader := none
  accessFlags := 33
  super := sup
  interfaces := #[]
  cf := none
  fields := #[]
  methods := #[]
  instanceTypes := #[]
  staticTypes := #[]
  resolved := #[]
  callSites := []
  init := .initialized
  statics := none
  mirror := none

def pool0 : Array CpInfo := pool [(5, u "<init>"), (0, u "()V"), (1, .class_ 10), (1, u "java/lang/Object")] 113

def k0m0 : Method := { name := "<init>", desc := "()V", sig := { parameters := [], returnType := none }, accessFlags := 1, code := none }
/-- java/lang/Object -/
def k0 : Class := { plain "java/lang/Object" none with
  accessFlags := 33
  interfaces := #[]
  cf := some (fileOf pool0 8 #[] #[{ accessFlags := 1, nameIndex := 5, descriptorIndex := 6, attributes := #[] }] 33 0 #[] #[])
  fields := #[]
  methods := #[k0m0]
  instanceTypes := #[]
  staticTypes := #[]
  resolved := Array.replicate 124 none
  statics := none }

def pool1 : Array CpInfo := pool [(2, .class_ 4), (1, u "java/lang/Object"), (0, u "<init>"), (0, u "()V"), (0, .integer 2147483647), (0, .fieldref 9 10), (0, .class_ 11), (0, .nameAndType 12 13), (0, u "com/example/unruly_environment/unrulyenvironment/game/Verdict"), (0, u "REALIZABLE"), (0, u "Lcom/example/unruly_environment/unrulyenvironment/game/Verdict;"), (0, .fieldref 9 15), (0, .nameAndType 16 13), (0, u "UNREALIZABLE"), (0, .fieldref 9 18), (0, .nameAndType 19 13), (0, u "VACUOUS"), (0, .methodref 21 22), (0, .class_ 23), (0, .nameAndType 24 25), (0, u "com/example/unruly_environment/unrulyenvironment/cli/ExitCodes"), (0, u "ofSearch"), (0, u "(Lcom/example/unruly_environment/unrulyenvironment/game/Verdict;Z)I"), (0, .class_ 27), (0, u "com/example/unruly_environment/unrulyenvironment/cli/ExitCodesOfSearchPinLaw"), (2, u "law"), (0, u "(II)Z")] 3

def k1m0 : Method := { name := "<init>", desc := "()V", sig := { parameters := [], returnType := none }, accessFlags := 1, code := none }
def k1c1 : Code := { maxStack := 2, maxLocals := 6, code := code, exceptionTable := #[], attributes := #[] }
def k1m1 : Method := { name := "law", desc := "(II)Z", sig := { parameters := [.int, .int], returnType := some .boolean }, accessFlags := 9, code := some k1c1 }
/-- com/example/unruly_environment/unrulyenvironment/cli/ExitCodesOfSearchPinLaw -/
def k1 : Class := { plain "com/example/unruly_environment/unrulyenvironment/cli/ExitCodesOfSearchPinLaw" (some 0) with
  accessFlags := 49
  interfaces := #[]
  cf := some (fileOf pool1 26 #[] #[{ accessFlags := 1, nameIndex := 5, descriptorIndex := 6, attributes := #[] }, { accessFlags := 9, nameIndex := 30, descriptorIndex := 31, attributes := #[] }] 49 2 #[] #[])
  fields := #[]
  methods := #[k1m0, k1m1]
  instanceTypes := #[]
  staticTypes := #[]
  resolved := Array.replicate 35 none
  statics := none }

def pool2 : Array CpInfo := pool [(1, .class_ 2), (0, u "java/lang/constant/Constable"), (0, .class_ 4), (0, u "java/lang/Object")] 6

/-- java/lang/constant/Constable -/
def k2 : Class := { plain "java/lang/constant/Constable" (some 0) with
  accessFlags := 1537
  interfaces := #[]
  cf := some (fileOf pool2 1 #[] #[] 1537 3 #[] #[])
  fields := #[]
  methods := #[]
  instanceTypes := #[]
  staticTypes := #[]
  resolved := Array.replicate 11 none
  statics := none }

def pool3 : Array CpInfo := pool [(1, .class_ 2), (0, u "java/lang/Comparable"), (0, .class_ 4), (0, u "java/lang/Object")] 7

/-- java/lang/Comparable -/
def k3 : Class := { plain "java/lang/Comparable" (some 0) with
  accessFlags := 1537
  interfaces := #[]
  cf := some (fileOf pool3 1 #[] #[] 1537 3 #[] #[])
  fields := #[]
  methods := #[]
  instanceTypes := #[]
  staticTypes := #[]
  resolved := Array.replicate 12 none
  statics := none }

def pool4 : Array CpInfo := pool [(1, .class_ 2), (0, u "java/io/Serializable"), (0, .class_ 4), (0, u "java/lang/Object")] 2

/-- java/io/Serializable -/
def k4 : Class := { plain "java/io/Serializable" (some 0) with
  accessFlags := 1537
  interfaces := #[]
  cf := some (fileOf pool4 1 #[] #[] 1537 3 #[] #[])
  fields := #[]
  methods := #[]
  instanceTypes := #[]
  staticTypes := #[]
  resolved := Array.replicate 7 none
  statics := none }

def pool5 : Array CpInfo := pool [(2, .class_ 4), (1, u "java/lang/Enum"), (0, u "name"), (0, u "Ljava/lang/String;"), (0, .fieldref 2 8), (0, .nameAndType 9 10), (0, u "ordinal"), (0, u "I"), (1, .class_ 14), (1, u "java/lang/Object"), (4, u "hash"), (86, .class_ 108), (1, u "java/lang/Enum$EnumDesc"), (2, .class_ 112), (0, u "java/lang/constant/Constable"), (0, .class_ 114), (0, u "java/lang/Comparable"), (0, .class_ 116), (0, u "java/io/Serializable"), (9, u "()I")] 77

def k5c0 : Code := { maxStack := 1, maxLocals := 1, code := jdk_37_method_2_code, exceptionTable := #[], attributes := #[] }
def k5m0 : Method := { name := "ordinal", desc := "()I", sig := { parameters := [], returnType := some .int }, accessFlags := 17, code := some k5c0 }
/-- java/lang/Enum -/
def k5 : Class := { plain "java/lang/Enum" (some 0) with
  accessFlags := 1057
  interfaces := #[2, 3, 4]
  cf := some (fileOf pool5 2 #[.nestMembers #[106]] #[{ accessFlags := 17, nameIndex := 9, descriptorIndex := 126, attributes := #[] }] 1057 12 #[111, 113, 115] #[{ accessFlags := 18, nameIndex := 5, descriptorIndex := 6, attributes := #[] }, { accessFlags := 18, nameIndex := 9, descriptorIndex := 10, attributes := #[] }, { accessFlags := 2, nameIndex := 19, descriptorIndex := 10, attributes := #[] }])
  fields := #[{ name := "name", type := (.object "java/lang/String"), accessFlags := 18, slot := 0, constantValue := 0 }, { name := "ordinal", type := .int, accessFlags := 18, slot := 1, constantValue := 0 }, { name := "hash", type := .int, accessFlags := 2, slot := 2, constantValue := 0 }]
  methods := #[k5m0]
  instanceTypes := #[(.object "java/lang/String"), .int, .int]
  staticTypes := #[]
  resolved := Array.replicate 204 none
  statics := none }

def pool6 : Array CpInfo := pool [(1, .class_ 2), (0, u "com/example/unruly_environment/unrulyenvironment/game/Verdict"), (2, u "REALIZABLE"), (0, u "Lcom/example/unruly_environment/unrulyenvironment/game/Verdict;"), (2, u "UNREALIZABLE"), (2, u "VACUOUS"), (2, u "$VALUES"), (0, u "[Lcom/example/unruly_environment/unrulyenvironment/game/Verdict;"), (6, .class_ 25), (1, u "java/lang/Enum"), (8, u "word"), (0, u "Ljava/lang/String;")] 30

/-- com/example/unruly_environment/unrulyenvironment/game/Verdict -/
def k6 : Class := { plain "com/example/unruly_environment/unrulyenvironment/game/Verdict" (some 5) with
  accessFlags := 16433
  interfaces := #[]
  cf := some (fileOf pool6 1 #[] #[] 16433 23 #[] #[{ accessFlags := 16409, nameIndex := 5, descriptorIndex := 6, attributes := #[] }, { accessFlags := 16409, nameIndex := 9, descriptorIndex := 6, attributes := #[] }, { accessFlags := 16409, nameIndex := 12, descriptorIndex := 6, attributes := #[] }, { accessFlags := 18, nameIndex := 34, descriptorIndex := 35, attributes := #[] }, { accessFlags := 4122, nameIndex := 15, descriptorIndex := 16, attributes := #[] }])
  fields := #[{ name := "REALIZABLE", type := (.object "com/example/unruly_environment/unrulyenvironment/game/Verdict"), accessFlags := 16409, slot := 0, constantValue := 0 }, { name := "UNREALIZABLE", type := (.object "com/example/unruly_environment/unrulyenvironment/game/Verdict"), accessFlags := 16409, slot := 1, constantValue := 0 }, { name := "VACUOUS", type := (.object "com/example/unruly_environment/unrulyenvironment/game/Verdict"), accessFlags := 16409, slot := 2, constantValue := 0 }, { name := "word", type := (.object "java/lang/String"), accessFlags := 18, slot := 3, constantValue := 0 }, { name := "$VALUES", type := (.array (.object "com/example/unruly_environment/unrulyenvironment/game/Verdict")), accessFlags := 4122, slot := 3, constantValue := 0 }]
  methods := #[]
  instanceTypes := #[(.object "java/lang/String"), .int, .int, (.object "java/lang/String")]
  staticTypes := #[(.object "com/example/unruly_environment/unrulyenvironment/game/Verdict"), (.object "com/example/unruly_environment/unrulyenvironment/game/Verdict"), (.object "com/example/unruly_environment/unrulyenvironment/game/Verdict"), (.array (.object "com/example/unruly_environment/unrulyenvironment/game/Verdict"))]
  resolved := Array.replicate 66 none
  statics := some 0 }

def pool7 : Array CpInfo := pool [(2, .class_ 4), (1, u "java/lang/Object"), (0, u "<init>"), (0, u "()V"), (0, .fieldref 8 9), (0, .class_ 10), (0, .nameAndType 11 12), (0, u "com/example/unruly_environment/unrulyenvironment/cli/ExitCodes$1"), (0, u "$SwitchMap$com$example$unruly_environment$unrulyenvironment$game$Verdict"), (0, u "[I"), (0, .methodref 14 15), (0, .class_ 16), (0, .nameAndType 17 18), (0, u "com/example/unruly_environment/unrulyenvironment/game/Verdict"), (0, u "ordinal"), (0, u "()I"), (5, .class_ 25), (0, u "com/example/unruly_environment/unrulyenvironment/cli/ExitCodes"), (0, .fieldref 14 27), (0, .nameAndType 28 29), (0, u "UNREALIZABLE"), (0, u "Lcom/example/unruly_environment/unrulyenvironment/game/Verdict;"), (0, .methodref 24 31), (0, .nameAndType 32 33), (0, u "ofExplanation"), (0, u "(Lcom/example/unruly_environment/unrulyenvironment/game/Verdict;)I"), (0, u "USAGE_OR_INPUT_ERROR"), (0, u "I"), (2, u "VACUOUS"), (1, u "FAILURE"), (5, u "ofSearch"), (0, u "(Lcom/example/unruly_environment/unrulyenvironment/game/Verdict;Z)I")] 6

def k7m0 : Method := { name := "<init>", desc := "()V", sig := { parameters := [], returnType := none }, accessFlags := 2, code := none }
def k7c1 : Code := { maxStack := 4, maxLocals := 1, code := prog_29_method_3_code, exceptionTable := #[], attributes := #[] }
def k7m1 : Method := { name := "ofExplanation", desc := "(Lcom/example/unruly_environment/unrulyenvironment/game/Verdict;)I", sig := { parameters := [(.object "com/example/unruly_environment/unrulyenvironment/game/Verdict")], returnType := some .int }, accessFlags := 8, code := some k7c1 }
def k7c2 : Code := { maxStack := 2, maxLocals := 2, code := prog_29_method_4_code, exceptionTable := #[], attributes := #[] }
def k7m2 : Method := { name := "ofSearch", desc := "(Lcom/example/unruly_environment/unrulyenvironment/game/Verdict;Z)I", sig := { parameters := [(.object "com/example/unruly_environment/unrulyenvironment/game/Verdict"), .boolean], returnType := some .int }, accessFlags := 8, code := some k7c2 }
/-- com/example/unruly_environment/unrulyenvironment/cli/ExitCodes -/
def k7 : Class := { plain "com/example/unruly_environment/unrulyenvironment/cli/ExitCodes" (some 0) with
  accessFlags := 48
  interfaces := #[]
  cf := some (fileOf pool7 24 #[.nestMembers #[8]] #[{ accessFlags := 2, nameIndex := 5, descriptorIndex := 6, attributes := #[] }, { accessFlags := 8, nameIndex := 32, descriptorIndex := 33, attributes := #[] }, { accessFlags := 8, nameIndex := 46, descriptorIndex := 47, attributes := #[] }] 48 2 #[] #[{ accessFlags := 24, nameIndex := 34, descriptorIndex := 35, attributes := #[] }, { accessFlags := 24, nameIndex := 38, descriptorIndex := 35, attributes := #[] }, { accessFlags := 24, nameIndex := 40, descriptorIndex := 35, attributes := #[] }])
  fields := #[{ name := "USAGE_OR_INPUT_ERROR", type := .int, accessFlags := 24, slot := 0, constantValue := 0 }, { name := "VACUOUS", type := .int, accessFlags := 24, slot := 1, constantValue := 0 }, { name := "FAILURE", type := .int, accessFlags := 24, slot := 2, constantValue := 0 }]
  methods := #[k7m0, k7m1, k7m2]
  instanceTypes := #[]
  staticTypes := #[.int, .int, .int]
  resolved := Array.replicate 54 none
  statics := none }

def pool8 : Array CpInfo := pool [(8, .class_ 10), (1, u "com/example/unruly_environment/unrulyenvironment/cli/ExitCodes$1"), (0, u "$SwitchMap$com$example$unruly_environment$unrulyenvironment$game$Verdict"), (0, u "[I"), (16, .class_ 30), (0, u "java/lang/Object"), (8, .class_ 40), (0, u "com/example/unruly_environment/unrulyenvironment/cli/ExitCodes")] 2

/-- com/example/unruly_environment/unrulyenvironment/cli/ExitCodes$1 -/
def k8 : Class := { plain "com/example/unruly_environment/unrulyenvironment/cli/ExitCodes$1" (some 0) with
  accessFlags := 4128
  interfaces := #[]
  cf := some (fileOf pool8 8 #[.nestHost 39] #[] 4128 29 #[] #[{ accessFlags := 4120, nameIndex := 11, descriptorIndex := 12, attributes := #[] }])
  fields := #[{ name := "$SwitchMap$com$example$unruly_environment$unrulyenvironment$game$Verdict", type := (.array .int), accessFlags := 4120, slot := 0, constantValue := 0 }]
  methods := #[]
  instanceTypes := #[]
  staticTypes := #[(.array .int)]
  resolved := Array.replicate 43 none
  statics := some 1 }

def pool9 : Array CpInfo := pool [(1, u "java/lang/Cloneable"), (0, .class_ 1), (0, u "java/lang/Object"), (0, .class_ 3)] 3

/-- java/lang/Cloneable -/
def k9 : Class := { plain "java/lang/Cloneable" (some 0) with
  accessFlags := 1537
  interfaces := #[]
  cf := some (fileOf pool9 2 #[] #[] 1537 4 #[] #[])
  fields := #[]
  methods := #[]
  instanceTypes := #[]
  staticTypes := #[]
  resolved := Array.replicate 8 none
  statics := none }

/-- the primitive byte -/
def k10 : Class := { plain "byte" none with kind := .primitive 'B', accessFlags := 0x411 }
/-- [B -/
def k11 : Class := { plain "[B" (some 0) with kind := .array 10 .byte, interfaces := #[9, 4], accessFlags := 1041 }

/-- the primitive int -/
def k12 : Class := { plain "int" none with kind := .primitive 'I', accessFlags := 0x411 }
/-- [I -/
def k13 : Class := { plain "[I" (some 0) with kind := .array 12 .int, interfaces := #[9, 4], accessFlags := 1041 }

def heap : Heap := #[{ cls := 6, slots := #[.ref 2, .ref 3, .ref 5, .null], vm := .statics 6 },
  { cls := 8, slots := #[.ref 4], vm := .statics 8 },
  { cls := 6, slots := #[.null, .int 0, .int 0, .null], vm := .none },
  { cls := 6, slots := #[.null, .int 1, .int 0, .null], vm := .none },
  { cls := 13, slots := #[.int 1, .int 2, .int 3], vm := .none },
  { cls := 6, slots := #[.null, .int 2, .int 0, .null], vm := .none }]
def classes : Array Class := #[k0, k1, k2, k3, k4, k5, k6, k7, k8, k9, k10, k11, k12, k13]
def interned : List (Array UInt16 × Addr) := []
def slotsUsed : Nat := 20
def theMethod : MethodId := ⟨1, 1⟩
def args0 : Array Value := #[.int 5, .int 3]
def aboutOver (below : List Frame) : State where
  vm := { classes := classes, interned := interned.toArray }
  heap := heap
  slotsUsed := slotsUsed
  threads := #[{ frames := .invoking theMethod args0 :: below }]
def below0 : List Frame := [.native { method := ⟨0, 0⟩, args := #[] }]
def about1 : State := aboutOver below0
def p0 : Program := .bare "" "" ""
def e0 : Env := launch0.env 0 0 0
theorem w_frames : about1.frames = Frame.invoking theMethod args0 :: below0 := rfl
set_option maxRecDepth 65536 in
theorem w_args : argsFit about1.vm theMethod args0 = true := by decide +kernel
set_option maxRecDepth 65536 in
theorem w_heap : heapFits about1 = true := by decide +kernel
set_option maxRecDepth 65536 in
theorem w_runnable : about1.curStatus? = some .runnable := by decide +kernel
set_option maxRecDepth 65536 in
theorem w_alone : about1.alone = true := by decide +kernel
set_option maxRecDepth 65536 in
theorem w_named : about1.methodNamed? x = some theMethod := by decide +kernel
set_option maxRecDepth 65536 in
theorem w_hears : about1.hears theMethod below0 = true := by decide +kernel
set_option maxRecDepth 65536 in
theorem w_ripe : about1.ripe theMethod args0 below0 = true := by decide +kernel
theorem w_running : about1.status = .running := rfl
set_option maxRecDepth 65536 in
theorem w_room : about1.hasRoom e0.platform room_1 = true :=
  launch0.hasRoom_least _ room_1 (by decide +kernel) (by decide +kernel) (by decide +kernel) (by decide +kernel) (by decide +kernel) (by decide +kernel)
theorem allAtoms_all (ts : List Jvm.Cond) (a : Array Jvm.Value) (st : Jvm.State) : (allAtoms ts).before a st = ts.all (fun c => c.before a st) := by
  induction ts with
  | nil => rfl
  | cons c t ih =>
    show (Jvm.Cond.and c (allAtoms t)).before a st = _
    rw [Jvm.Cond.before_and, ih, List.all_cons]
def words1 : List Jvm.Cond := Jvm.Cond.code x code maxLocals ret :: tables_1
/-- a 'code' word, met by the world's own term for the bytes: nothing is compared byte by byte -/
theorem code_word {y : MethodName} {bytes : ByteArray} {mx : Nat} {rt : Option FieldType} {a : Array Value} {s : State} {m : MethodId} {meth : Method} {c : Code} (h1 : s.methodNamed? y = some m) (h2 : s.vm.method? m = some meth) (h3 : meth.code = some c) (h4 : c.code = bytes)
    (h5 : (c.maxLocals == mx && c.exceptionTable.isEmpty && decide (c.maxStack ≤ mostOperands) && decide (meth.sig.returnType = rt) && !meth.locks && decide (parseMethodDescriptor y.desc = some meth.sig)) = true) : (Jvm.Cond.code y bytes mx rt).before a s = true := by
  simp only [Bool.and_eq_true, beq_iff_eq, Bool.not_eq_true', decide_eq_true_eq] at h5
  obtain ⟨⟨⟨⟨⟨g1, g2⟩, g3⟩, g4⟩, g5⟩, g6⟩ := h5
  simp [Cond.before, Cond.holds, Cond.value, h1, h2, h3, h4, g1, g2, g3, g4, g5, g6]
def isCode : Jvm.Cond → Bool
  | .code _ _ _ _ => true
  | _ => false
theorem all_split {L : List Jvm.Cond} {P : Jvm.Cond → Bool} (h1 : L.all (fun c => isCode c || P c) = true) (h2 : ∀ c ∈ L.filter isCode, P c = true) : L.all P = true := by
  refine List.all_eq_true.mpr fun c hc => ?_
  have h := List.all_eq_true.mp h1 c hc
  rcases Bool.eq_false_or_eq_true (isCode c) with hi | hi
  · exact h2 c (List.mem_filter.mpr ⟨hc, hi⟩)
  · simpa [hi] using h
set_option maxRecDepth 65536 in
theorem w_c0 : (Jvm.Cond.code x code maxLocals ret).before args0 about1 = true := code_word (m := ⟨1, 1⟩) (meth := k1m1) (c := k1c1) (by decide +kernel) rfl rfl rfl (by decide +kernel)
set_option maxRecDepth 65536 in
theorem w_c1 : (Jvm.Cond.code ({ cls := "com/example/unruly_environment/unrulyenvironment/cli/ExitCodes", name := "ofSearch", desc := "(Lcom/example/unruly_environment/unrulyenvironment/game/Verdict;Z)I" } : Jvm.MethodName) prog_29_method_4_code (2 : Nat) (Option.some Jvm.ClassFile.FieldType.int)).before args0 about1 = true := code_word (m := ⟨7, 2⟩) (meth := k7m2) (c := k7c2) (by decide +kernel) rfl rfl rfl (by decide +kernel)
set_option maxRecDepth 65536 in
theorem w_c2 : (Jvm.Cond.code ({ cls := "com/example/unruly_environment/unrulyenvironment/cli/ExitCodes", name := "ofExplanation", desc := "(Lcom/example/unruly_environment/unrulyenvironment/game/Verdict;)I" } : Jvm.MethodName) prog_29_method_3_code (1 : Nat) (Option.some Jvm.ClassFile.FieldType.int)).before args0 about1 = true := code_word (m := ⟨7, 1⟩) (meth := k7m1) (c := k7c1) (by decide +kernel) rfl rfl rfl (by decide +kernel)
set_option maxRecDepth 65536 in
theorem w_c3 : (Jvm.Cond.code ({ cls := "java/lang/Enum", name := "ordinal", desc := "()I" } : Jvm.MethodName) jdk_37_method_2_code (1 : Nat) (Option.some Jvm.ClassFile.FieldType.int)).before args0 about1 = true := code_word (m := ⟨5, 0⟩) (meth := k5m0) (c := k5c0) (by decide +kernel) rfl rfl rfl (by decide +kernel)
def codes1 : List Jvm.Cond := [Jvm.Cond.code x code maxLocals ret, Jvm.Cond.code ({ cls := "com/example/unruly_environment/unrulyenvironment/cli/ExitCodes", name := "ofSearch", desc := "(Lcom/example/unruly_environment/unrulyenvironment/game/Verdict;Z)I" } : Jvm.MethodName) prog_29_method_4_code (2 : Nat) (Option.some Jvm.ClassFile.FieldType.int), Jvm.Cond.code ({ cls := "com/example/unruly_environment/unrulyenvironment/cli/ExitCodes", name := "ofExplanation", desc := "(Lcom/example/unruly_environment/unrulyenvironment/game/Verdict;)I" } : Jvm.MethodName) prog_29_method_3_code (1 : Nat) (Option.some Jvm.ClassFile.FieldType.int), Jvm.Cond.code ({ cls := "java/lang/Enum", name := "ordinal", desc := "()I" } : Jvm.MethodName) jdk_37_method_2_code (1 : Nat) (Option.some Jvm.ClassFile.FieldType.int)]
set_option maxRecDepth 65536 in
theorem codes_eq : words1.filter isCode = codes1 := rfl
theorem w_codes : ∀ c ∈ words1.filter isCode, c.before args0 about1 = true := by
  rw [codes_eq]
  intro c hc
  simp only [codes1, List.mem_cons, List.not_mem_nil, or_false] at hc
  rcases hc with rfl | rfl | rfl | rfl
  · exact w_c0
  · exact w_c1
  · exact w_c2
  · exact w_c3
set_option maxRecDepth 65536 in
theorem w_t1 : (words1.take 24).all (fun c => isCode c || c.before args0 about1) = true := by decide +kernel
set_option maxRecDepth 65536 in
theorem w_t2 : (words1.drop 24).all (fun c => isCode c || c.before args0 about1) = true := by decide +kernel
theorem w_tables : (allAtoms (Jvm.Cond.code x code maxLocals ret :: tables_1)).before args0 about1 = true := by
  rw [allAtoms_all]
  show words1.all (fun c => c.before args0 about1) = true
  refine all_split ?_ w_codes
  rw [← List.take_append_drop 24 words1, List.all_append, w_t1, w_t2]
  rfl
set_option maxRecDepth 65536 in
theorem w_case : (Jvm.Cond.and given_1 narrow_1).before args0 about1 = true := by decide +kernel
theorem w_applies : (headSpec (Jvm.Cond.code x code maxLocals ret :: tables_1) room_1).applies x e0.platform about1 = true :=
  (Spec.applies_iff w_frames).mpr ⟨w_running, w_runnable, w_alone, w_named, w_hears, w_ripe, w_room, w_tables⟩
theorem atStart : AtStart classFile x code maxLocals ret World_1 tables_1 room_1 Calls_1 rest_1 Pre_1 launch0 p0 e0 about1 theMethod args0 below0 :=
  ⟨lists_1, trivial, launch0.admits_env _ _ _, launch0.least_env, fairChoices_fair.cas, fairChoices_fair.clock, w_frames, w_args, w_heap, w_applies, trivial, trivial, w_case⟩
end start1
theorem witness_1 : WitnessClaimed_1 := ⟨start1.p0, start1.e0, start1.about1, start1.theMethod, start1.args0, start1.below0, start1.atStart⟩
end Jvm.Pilot.@@N@@
