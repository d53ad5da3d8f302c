import JvmDerived
import JvmDerived.Pilot.@@N@@Statement
import JvmDerived.Pilot.@@N@@Code
set_option linter.unusedVariables false
set_option linter.unusedSimpArgs false
@@BLOCK:NumsL.lean.txt@@
namespace Jvm.Pilot.@@N@@
open Jvm Jvm.ClassFile Sem Op Lib Jvm.Free Jvm.Stand Jvm.LawKit Jvm.RoadKit Bundle Jvm.Pilot.@@N@@.Jvm.D
/-- a term that the case says equals an int is worth that int -/
theorem own_eqI {args : Array Value} {s : State} {t : Term} {k : Int32} (h : (Jvm.Cond.eq t (.int k)).value args s none s [] = some true) : t.eval args s none [] s = some (.int k) := by
  obtain ⟨u, y, e1, e2, k1, k2⟩ := cmp_v (Or.inl h)
  obtain rfl : y = .int k := (Option.some.inj ((Term.int_eval k).symm.trans e2)).symm
  obtain ⟨z, rfl⟩ : ∃ z, u = .int z := k2
  have q : z = k := gotT (Cond.eq_ints e1 (Term.int_eval k)) h
  rw [e1, q]
/-- a term that the case says equals one that is worth an object is worth that object -/
theorem own_eqR {args : Array Value} {s : State} {t t' : Term} {b : Addr} (h : (Jvm.Cond.eq t t').value args s none s [] = some true) (hb : t'.eval args s none [] s = some (.ref b)) : t.eval args s none [] s = some (.ref b) := by
  obtain ⟨u, y, e1, e2, k1, k2⟩ := cmp_v (Or.inl h)
  obtain rfl : y = .ref b := (Option.some.inj (hb.symm.trans e2)).symm
  have q : u = .ref b := gotT (eq_R e1 hb k2.2 rfl) h
  rw [e1, q]
/-- two objects whose fields hold unlike values are unlike -/
theorem own_ne {s : State} {a b : Addr} {C n d : String} {v w : Value} (h1 : s.fieldOf? a C n d = some v) (h2 : s.fieldOf? b C n d = some w) (q : v ≠ w) : a ≠ b := fun e => by
  subst e; exact q (Option.some.inj (h1.symm.trans h2))
theorem own_pos (p : Int32) : 0 ≤ (p &&& (2147483647 : Int32)).toInt := by
  rw [Jvm.Kit.i32_mask p 2147483647 (k := 31) (by decide) (by decide)]; omega
theorem own_mod_lo (p n : Int32) (h : 0 < n.toInt) : 0 ≤ ((p &&& (2147483647 : Int32)) % n).toInt := by
  rw [Jvm.Kit.i32_rem_nonneg (own_pos p)]; exact Int.emod_nonneg _ (by omega)
theorem own_mod_hi (p n : Int32) (h : 0 < n.toInt) (k : Int) (hk : n.toInt = k) : ((p &&& (2147483647 : Int32)) % n).toInt < k := by
  rw [Jvm.Kit.i32_rem_nonneg (own_pos p), ← hk]; exact Int.emod_lt_of_pos _ h
theorem own_lt9 (z : Int32) (h1 : 0 ≤ z.toInt) (h2 : z.toInt < 9) : z = (0 : Int32) ∨ z = (1 : Int32) ∨ z = (2 : Int32) ∨ z = (3 : Int32) ∨ z = (4 : Int32) ∨ z = (5 : Int32) ∨ z = (6 : Int32) ∨ z = (7 : Int32) ∨ z = (8 : Int32) := by
  have e0 : (0 : Int32).toInt = 0 := by decide +kernel
  have e1 : (1 : Int32).toInt = 1 := by decide +kernel
  have e2 : (2 : Int32).toInt = 2 := by decide +kernel
  have e3 : (3 : Int32).toInt = 3 := by decide +kernel
  have e4 : (4 : Int32).toInt = 4 := by decide +kernel
  have e5 : (5 : Int32).toInt = 5 := by decide +kernel
  have e6 : (6 : Int32).toInt = 6 := by decide +kernel
  have e7 : (7 : Int32).toInt = 7 := by decide +kernel
  have e8 : (8 : Int32).toInt = 8 := by decide +kernel
  simp only [← Int32.toInt_inj]
  omega
theorem own_mod9 (p : Int32) : ((p &&& (2147483647 : Int32)) % (9 : Int32)) = (0 : Int32) ∨ ((p &&& (2147483647 : Int32)) % (9 : Int32)) = (1 : Int32) ∨ ((p &&& (2147483647 : Int32)) % (9 : Int32)) = (2 : Int32) ∨ ((p &&& (2147483647 : Int32)) % (9 : Int32)) = (3 : Int32) ∨ ((p &&& (2147483647 : Int32)) % (9 : Int32)) = (4 : Int32) ∨ ((p &&& (2147483647 : Int32)) % (9 : Int32)) = (5 : Int32) ∨ ((p &&& (2147483647 : Int32)) % (9 : Int32)) = (6 : Int32) ∨ ((p &&& (2147483647 : Int32)) % (9 : Int32)) = (7 : Int32) ∨ ((p &&& (2147483647 : Int32)) % (9 : Int32)) = (8 : Int32) :=
  own_lt9 _ (own_mod_lo p 9 (by decide +kernel)) (own_mod_hi p 9 (by decide +kernel) 9 (by decide +kernel))

theorem d0_0 : decode method_2_code 0 = .ok (.iload_n 0, 1) := by decide +kernel
theorem d0_1 : decode method_2_code 1 = .ok (.ifCond .ne 7, 3) := by decide +kernel
theorem d0_4 : decode method_2_code 4 = .ok (.getstatic 7, 3) := by decide +kernel
theorem d0_7 : decode method_2_code 7 = .ok (.areturn, 1) := by decide +kernel
theorem d0_8 : decode method_2_code 8 = .ok (.iload_n 0, 1) := by decide +kernel
theorem d0_9 : decode method_2_code 9 = .ok (.iconst 1, 1) := by decide +kernel
theorem d0_10 : decode method_2_code 10 = .ok (.if_icmp .ne 7, 3) := by decide +kernel
theorem d0_13 : decode method_2_code 13 = .ok (.getstatic 13, 3) := by decide +kernel
theorem d0_16 : decode method_2_code 16 = .ok (.areturn, 1) := by decide +kernel
theorem d0_17 : decode method_2_code 17 = .ok (.iload_n 0, 1) := by decide +kernel
theorem d0_18 : decode method_2_code 18 = .ok (.iconst 2, 1) := by decide +kernel
theorem d0_19 : decode method_2_code 19 = .ok (.if_icmp .ne 7, 3) := by decide +kernel
theorem d0_22 : decode method_2_code 22 = .ok (.getstatic 16, 3) := by decide +kernel
theorem d0_25 : decode method_2_code 25 = .ok (.areturn, 1) := by decide +kernel
theorem d0_26 : decode method_2_code 26 = .ok (.iload_n 0, 1) := by decide +kernel
theorem d0_27 : decode method_2_code 27 = .ok (.iconst 3, 1) := by decide +kernel
theorem d0_28 : decode method_2_code 28 = .ok (.if_icmp .ne 7, 3) := by decide +kernel
theorem d0_31 : decode method_2_code 31 = .ok (.getstatic 19, 3) := by decide +kernel
theorem d0_34 : decode method_2_code 34 = .ok (.areturn, 1) := by decide +kernel
theorem d0_35 : decode method_2_code 35 = .ok (.iload_n 0, 1) := by decide +kernel
theorem d0_36 : decode method_2_code 36 = .ok (.iconst 4, 1) := by decide +kernel
theorem d0_37 : decode method_2_code 37 = .ok (.if_icmp .ne 7, 3) := by decide +kernel
theorem d0_40 : decode method_2_code 40 = .ok (.getstatic 22, 3) := by decide +kernel
theorem d0_43 : decode method_2_code 43 = .ok (.areturn, 1) := by decide +kernel
theorem d0_44 : decode method_2_code 44 = .ok (.iload_n 0, 1) := by decide +kernel
theorem d0_45 : decode method_2_code 45 = .ok (.iconst 5, 1) := by decide +kernel
theorem d0_46 : decode method_2_code 46 = .ok (.if_icmp .ne 7, 3) := by decide +kernel
theorem d0_49 : decode method_2_code 49 = .ok (.getstatic 25, 3) := by decide +kernel
theorem d0_52 : decode method_2_code 52 = .ok (.areturn, 1) := by decide +kernel
theorem d0_53 : decode method_2_code 53 = .ok (.iload_n 0, 1) := by decide +kernel
theorem d0_54 : decode method_2_code 54 = .ok (.bipush 6, 2) := by decide +kernel
theorem d0_56 : decode method_2_code 56 = .ok (.if_icmp .ne 7, 3) := by decide +kernel
theorem d0_59 : decode method_2_code 59 = .ok (.getstatic 28, 3) := by decide +kernel
theorem d0_62 : decode method_2_code 62 = .ok (.areturn, 1) := by decide +kernel
theorem d0_63 : decode method_2_code 63 = .ok (.iload_n 0, 1) := by decide +kernel
theorem d0_64 : decode method_2_code 64 = .ok (.bipush 7, 2) := by decide +kernel
theorem d0_66 : decode method_2_code 66 = .ok (.if_icmp .ne 7, 3) := by decide +kernel
theorem d0_69 : decode method_2_code 69 = .ok (.getstatic 31, 3) := by decide +kernel
theorem d0_72 : decode method_2_code 72 = .ok (.areturn, 1) := by decide +kernel
theorem d0_73 : decode method_2_code 73 = .ok (.getstatic 34, 3) := by decide +kernel
theorem d0_76 : decode method_2_code 76 = .ok (.areturn, 1) := by decide +kernel
theorem d1_0 : decode prog_62_method_8_code 0 = .ok (.aload_n 0, 1) := by decide +kernel
theorem d1_1 : decode prog_62_method_8_code 1 = .ok (.getstatic 22, 3) := by decide +kernel
theorem d1_4 : decode prog_62_method_8_code 4 = .ok (.if_acmp .eq 10, 3) := by decide +kernel
theorem d1_7 : decode prog_62_method_8_code 7 = .ok (.aload_n 0, 1) := by decide +kernel
theorem d1_8 : decode prog_62_method_8_code 8 = .ok (.getstatic 25, 3) := by decide +kernel
theorem d1_11 : decode prog_62_method_8_code 11 = .ok (.if_acmp .ne 7, 3) := by decide +kernel
theorem d1_14 : decode prog_62_method_8_code 14 = .ok (.iconst 1, 1) := by decide +kernel
theorem d1_15 : decode prog_62_method_8_code 15 = .ok (.goto 4, 3) := by decide +kernel
theorem d1_18 : decode prog_62_method_8_code 18 = .ok (.iconst 0, 1) := by decide +kernel
theorem d1_19 : decode prog_62_method_8_code 19 = .ok (.ireturn, 1) := by decide +kernel
theorem pn0 : plainName "com/example/regionwise/regionwise/core/PseudostateKindSpansRegionsPinLaw" = true := by first | (simp [plainName, overriddenIn]; done) | decide +kernel
theorem pn1 : plainName "com/example/regionwise/regionwise/core/PseudostateKind" = true := by first | (simp [plainName, overriddenIn]; done) | decide +kernel
theorem pn2 : plainName "com/example/regionwise/regionwise/core/PseudostateKindSpansRegionsPinLaw" = true := by first | (simp [plainName, overriddenIn]; done) | decide +kernel
theorem pd0 : parseMethodDescriptor "(I)Lcom/example/regionwise/regionwise/core/PseudostateKind;" = some ⟨[.int], some (.object "com/example/regionwise/regionwise/core/PseudostateKind")⟩ := by decide +kernel
theorem pd1 : parseMethodDescriptor "()Z" = some ⟨[], some .boolean⟩ := by decide +kernel
def QV (val : Value) (h0 : Heap) (n0 : Nat) (v : Option Value) (h : Heap) (L : List Loc) : Prop := v = some val ∧ Fr n0 L ∧ h = h0
def Ctx (Z : State) (h0 : Heap) (s_JUNCTION : Addr) (s_FORK : Addr) (s_JOIN : Addr) (s_CHOICE : Addr) (s_ENTRY_POINT : Addr) (s_EXIT_POINT : Addr) (s_SHALLOW_HISTORY : Addr) (s_DEEP_HISTORY : Addr) (s_TERMINATE : Addr) : Prop :=
  Sta Z h0 "com/example/regionwise/regionwise/core/PseudostateKind" "JUNCTION" "Lcom/example/regionwise/regionwise/core/PseudostateKind;" (.ref s_JUNCTION) ∧
  Sta Z h0 "com/example/regionwise/regionwise/core/PseudostateKind" "FORK" "Lcom/example/regionwise/regionwise/core/PseudostateKind;" (.ref s_FORK) ∧
  s_FORK ≠ s_JUNCTION ∧
  Sta Z h0 "com/example/regionwise/regionwise/core/PseudostateKind" "JOIN" "Lcom/example/regionwise/regionwise/core/PseudostateKind;" (.ref s_JOIN) ∧
  s_JOIN ≠ s_JUNCTION ∧
  Exa Z h0 s_JUNCTION "com/example/regionwise/regionwise/core/PseudostateKind" ∧
  Sta Z h0 "com/example/regionwise/regionwise/core/PseudostateKind" "CHOICE" "Lcom/example/regionwise/regionwise/core/PseudostateKind;" (.ref s_CHOICE) ∧
  s_CHOICE ≠ s_FORK ∧
  s_CHOICE ≠ s_JOIN ∧
  Exa Z h0 s_CHOICE "com/example/regionwise/regionwise/core/PseudostateKind" ∧
  Sta Z h0 "com/example/regionwise/regionwise/core/PseudostateKind" "ENTRY_POINT" "Lcom/example/regionwise/regionwise/core/PseudostateKind;" (.ref s_ENTRY_POINT) ∧
  s_ENTRY_POINT ≠ s_FORK ∧
  s_ENTRY_POINT ≠ s_JOIN ∧
  Exa Z h0 s_ENTRY_POINT "com/example/regionwise/regionwise/core/PseudostateKind" ∧
  Sta Z h0 "com/example/regionwise/regionwise/core/PseudostateKind" "EXIT_POINT" "Lcom/example/regionwise/regionwise/core/PseudostateKind;" (.ref s_EXIT_POINT) ∧
  s_EXIT_POINT ≠ s_FORK ∧
  s_EXIT_POINT ≠ s_JOIN ∧
  Exa Z h0 s_EXIT_POINT "com/example/regionwise/regionwise/core/PseudostateKind" ∧
  Sta Z h0 "com/example/regionwise/regionwise/core/PseudostateKind" "SHALLOW_HISTORY" "Lcom/example/regionwise/regionwise/core/PseudostateKind;" (.ref s_SHALLOW_HISTORY) ∧
  s_FORK ≠ s_SHALLOW_HISTORY ∧
  s_JOIN ≠ s_SHALLOW_HISTORY ∧
  Exa Z h0 s_SHALLOW_HISTORY "com/example/regionwise/regionwise/core/PseudostateKind" ∧
  Sta Z h0 "com/example/regionwise/regionwise/core/PseudostateKind" "DEEP_HISTORY" "Lcom/example/regionwise/regionwise/core/PseudostateKind;" (.ref s_DEEP_HISTORY) ∧
  s_DEEP_HISTORY ≠ s_FORK ∧
  s_DEEP_HISTORY ≠ s_JOIN ∧
  Exa Z h0 s_DEEP_HISTORY "com/example/regionwise/regionwise/core/PseudostateKind" ∧
  Exa Z h0 s_FORK "com/example/regionwise/regionwise/core/PseudostateKind" ∧
  s_FORK ≠ s_JOIN ∧
  Exa Z h0 s_JOIN "com/example/regionwise/regionwise/core/PseudostateKind" ∧
  Sta Z h0 "com/example/regionwise/regionwise/core/PseudostateKind" "TERMINATE" "Lcom/example/regionwise/regionwise/core/PseudostateKind;" (.ref s_TERMINATE) ∧
  s_FORK ≠ s_TERMINATE ∧
  s_JOIN ≠ s_TERMINATE ∧
  Exa Z h0 s_TERMINATE "com/example/regionwise/regionwise/core/PseudostateKind"

set_option maxRecDepth 65536 in
set_option maxHeartbeats 40000000 in
theorem r0 (l : Launch) (Z : State) (a0 : Array Value) (hw : ∀ d ∈ tables_1, d.before a0 Z = true) (ws : List Jvm.Cond) (h0 : Heap) (n0 : Nat) (s_JUNCTION : Addr) (s_FORK : Addr) (s_JOIN : Addr) (s_CHOICE : Addr) (s_ENTRY_POINT : Addr) (s_EXIT_POINT : Addr) (s_SHALLOW_HISTORY : Addr) (s_DEEP_HISTORY : Addr) (s_TERMINATE : Addr) (K : Ctx Z h0 s_JUNCTION s_FORK s_JOIN s_CHOICE s_ENTRY_POINT s_EXIT_POINT s_SHALLOW_HISTORY s_DEEP_HISTORY s_TERMINATE) :
    MetFree l (⟨"com/example/regionwise/regionwise/core/PseudostateKindSpansRegionsPinLaw", "pick", "(I)Lcom/example/regionwise/regionwise/core/PseudostateKind;"⟩ : MethodName) (head1 (Jvm.Cond.code (⟨"com/example/regionwise/regionwise/core/PseudostateKindSpansRegionsPinLaw", "pick", "(I)Lcom/example/regionwise/regionwise/core/PseudostateKind;"⟩ : MethodName) method_2_code 1 (some (.object "com/example/regionwise/regionwise/core/PseudostateKind")) :: ws) ({ frames := 0, cells := 0, slots := 0, locals := 0 } : Room)) (fun a U => a = #[(.int (0 : Int32))] ∧ Z.Warmed39 U.vm ∧ U.heap = h0) (fun _ _ _ _ _ => True) (fun _ U o U' => ∃ v L, o = .returned v ∧ QV (.ref s_JUNCTION) h0 n0 v U'.heap L ∧ FrameEnd U o U' L ({ frames := 0, cells := 0, slots := 0, locals := 0 } : Room).cells ({ frames := 0, cells := 0, slots := 0, locals := 0 } : Room).slots) := by
  obtain ⟨S_JUNCTION, S_FORK, ne_FORK_JUNCTION, S_JOIN, ne_JOIN_JUNCTION, E_JUNCTION, S_CHOICE, ne_CHOICE_FORK, ne_CHOICE_JOIN, E_CHOICE, S_ENTRY_POINT, ne_ENTRY_POINT_FORK, ne_ENTRY_POINT_JOIN, E_ENTRY_POINT, S_EXIT_POINT, ne_EXIT_POINT_FORK, ne_EXIT_POINT_JOIN, E_EXIT_POINT, S_SHALLOW_HISTORY, ne_FORK_SHALLOW_HISTORY, ne_JOIN_SHALLOW_HISTORY, E_SHALLOW_HISTORY, S_DEEP_HISTORY, ne_DEEP_HISTORY_FORK, ne_DEEP_HISTORY_JOIN, E_DEEP_HISTORY, E_FORK, ne_FORK_JOIN, E_JOIN, S_TERMINATE, ne_FORK_TERMINATE, ne_JOIN_TERMINATE, E_TERMINATE⟩ := id K
  refine MetFree.of_bodySF (plainFor_of_name pn0) hisR ?_
  intro p e s m args below meth c s₁ Bd hml0 hP hK
  obtain ⟨rfl, hZ, hh⟩ := hP
  have hx := Bd.exec
  have hby := Bd.bytes
  have hml : c.maxLocals = 1 := hml0
  have hown : s.vm.findClass "com/example/regionwise/regionwise/core/PseudostateKindSpansRegionsPinLaw" = some m.cls := findClass_of_methodNamed Bd.named
  have X0 : Stand p l e ({ frames := 0, cells := 0, slots := 0, locals := 0 } : Room) s m #[(.int (0 : Int32))] below meth c s₁ [] 0 0 := Stand.of_body Bd
  have e0 : s₁.heap = h0 := by rw [← hh, Bd.state]; rfl
  have N0 := Fr.nil n0
  have pre0 : ∀ t, Steps p.tables e below (s₁.setTop (mkF m 0 #[.val (.int (0 : Int32))] [])) t → Steps p.tables e below (s₁.setTop (entryFrame m #[(.int (0 : Int32))] 1)) t := fun t k => castTop (by first | (simp [entryFrame, mkF, argsToLocals, Value.category]; done) | rfl) k
  obtain ⟨T1, X1, e1, st1⟩ := getS X0 hx hZ hown (host := "") (hw _ (List.mem_of_getElem? (i := 5) rfl)) Via.refl e0 S_JUNCTION (g := (mkF m 4 #[.val (.int (0 : Int32))] [])) rfl (hb hby d0_4)
  obtain ⟨fs, hr, hrun, hended, hW, hsame⟩ := X1.leave (v := some (.ref s_JUNCTION)) (fun h => by rw [Bd.returns] at h; cases h)
  refine ⟨_, _, pre0 _ ?_, hrun, hended, _, _, rfl, ?_, ⟨_, rfl⟩, hW, hsame.mono (by decide) (by decide)⟩
  · show Steps p.tables e below (s₁.setTop (mkF m 0 #[.val (.int (0 : Int32))] [])) _
    refine XS.iloadN X0.here hx rfl (hb hby d0_0) rfl ?_
    show Steps p.tables e below (s₁.setTop (mkF m 1 #[.val (.int (0 : Int32))] [(.int (0 : Int32))])) _
    refine XS.ifNo X0.here hx rfl (hb hby d0_1) rfl (by decide +kernel) ?_
    show Steps p.tables e below (s₁.setTop (mkF m 4 #[.val (.int (0 : Int32))] [])) _
    refine st1 _ ?_
    show Steps p.tables e below (T1.setTop (mkF m 7 #[.val (.int (0 : Int32))] [(.ref s_JUNCTION)])) _
    exact retOut X1 hx (i := .areturn) Bd.returns rfl (Or.inr (Or.inr (Or.inr (Or.inr ⟨rfl, rfl, rfl⟩)))) (hb hby d0_7) hr
  · exact ⟨rfl, N0, e1⟩
set_option maxRecDepth 65536 in
set_option maxHeartbeats 40000000 in
theorem r1 (l : Launch) (Z : State) (a0 : Array Value) (hw : ∀ d ∈ tables_1, d.before a0 Z = true) (ws : List Jvm.Cond) (h0 : Heap) (n0 : Nat) (s_JUNCTION : Addr) (s_FORK : Addr) (s_JOIN : Addr) (s_CHOICE : Addr) (s_ENTRY_POINT : Addr) (s_EXIT_POINT : Addr) (s_SHALLOW_HISTORY : Addr) (s_DEEP_HISTORY : Addr) (s_TERMINATE : Addr) (K : Ctx Z h0 s_JUNCTION s_FORK s_JOIN s_CHOICE s_ENTRY_POINT s_EXIT_POINT s_SHALLOW_HISTORY s_DEEP_HISTORY s_TERMINATE) :
    MetFree l (⟨"com/example/regionwise/regionwise/core/PseudostateKind", "spansRegions", "()Z"⟩ : MethodName) (head1 (Jvm.Cond.code (⟨"com/example/regionwise/regionwise/core/PseudostateKind", "spansRegions", "()Z"⟩ : MethodName) prog_62_method_8_code 1 (some .boolean) :: ws) ({ frames := 0, cells := 0, slots := 0, locals := 0 } : Room)) (fun a U => a = #[(.ref s_JUNCTION)] ∧ Z.Warmed39 U.vm ∧ U.heap = h0) (fun _ _ _ _ _ => True) (fun _ U o U' => ∃ v L, o = .returned v ∧ QV (.int (0 : Int32)) h0 n0 v U'.heap L ∧ FrameEnd U o U' L ({ frames := 0, cells := 0, slots := 0, locals := 0 } : Room).cells ({ frames := 0, cells := 0, slots := 0, locals := 0 } : Room).slots) := by
  obtain ⟨S_JUNCTION, S_FORK, ne_FORK_JUNCTION, S_JOIN, ne_JOIN_JUNCTION, E_JUNCTION, S_CHOICE, ne_CHOICE_FORK, ne_CHOICE_JOIN, E_CHOICE, S_ENTRY_POINT, ne_ENTRY_POINT_FORK, ne_ENTRY_POINT_JOIN, E_ENTRY_POINT, S_EXIT_POINT, ne_EXIT_POINT_FORK, ne_EXIT_POINT_JOIN, E_EXIT_POINT, S_SHALLOW_HISTORY, ne_FORK_SHALLOW_HISTORY, ne_JOIN_SHALLOW_HISTORY, E_SHALLOW_HISTORY, S_DEEP_HISTORY, ne_DEEP_HISTORY_FORK, ne_DEEP_HISTORY_JOIN, E_DEEP_HISTORY, E_FORK, ne_FORK_JOIN, E_JOIN, S_TERMINATE, ne_FORK_TERMINATE, ne_JOIN_TERMINATE, E_TERMINATE⟩ := id K
  refine MetFree.of_bodySF (plainFor_of_name pn1) hisR ?_
  intro p e s m args below meth c s₁ Bd hml0 hP hK
  obtain ⟨rfl, hZ, hh⟩ := hP
  have hx := Bd.exec
  have hby := Bd.bytes
  have hml : c.maxLocals = 1 := hml0
  have hown : s.vm.findClass "com/example/regionwise/regionwise/core/PseudostateKind" = some m.cls := findClass_of_methodNamed Bd.named
  have X0 : Stand p l e ({ frames := 0, cells := 0, slots := 0, locals := 0 } : Room) s m #[(.ref s_JUNCTION)] below meth c s₁ [] 0 0 := Stand.of_body Bd
  have e0 : s₁.heap = h0 := by rw [← hh, Bd.state]; rfl
  have N0 := Fr.nil n0
  have pre0 : ∀ t, Steps p.tables e below (s₁.setTop (mkF m 0 #[.val (.ref s_JUNCTION)] [])) t → Steps p.tables e below (s₁.setTop (entryFrame m #[(.ref s_JUNCTION)] 1)) t := fun t k => castTop (by first | (simp [entryFrame, mkF, argsToLocals, Value.category]; done) | rfl) k
  obtain ⟨T1, X1, e1, st1⟩ := getS X0 hx hZ hown (host := "") (hw _ (List.mem_of_getElem? (i := 13) rfl)) Via.refl e0 S_FORK (g := (mkF m 1 #[.val (.ref s_JUNCTION)] [(.ref s_JUNCTION)])) rfl (hb hby d1_1)
  obtain ⟨T2, X2, e2, st2⟩ := getS X1 hx hZ hown (host := "") (hw _ (List.mem_of_getElem? (i := 15) rfl)) Via.refl e1 S_JOIN (g := (mkF m 8 #[.val (.ref s_JUNCTION)] [(.ref s_JUNCTION)])) rfl (hb hby d1_8)
  obtain ⟨fs, hr, hrun, hended, hW, hsame⟩ := X2.leave (v := some (.int (0 : Int32))) (fun h => by rw [Bd.returns] at h; cases h)
  refine ⟨_, _, pre0 _ ?_, hrun, hended, _, _, rfl, ?_, ⟨_, rfl⟩, hW, hsame.mono (by decide) (by decide)⟩
  · show Steps p.tables e below (s₁.setTop (mkF m 0 #[.val (.ref s_JUNCTION)] [])) _
    refine XS.aloadN X0.here hx rfl (hb hby d1_0) rfl rfl ?_
    show Steps p.tables e below (s₁.setTop (mkF m 1 #[.val (.ref s_JUNCTION)] [(.ref s_JUNCTION)])) _
    refine st1 _ ?_
    show Steps p.tables e below (T1.setTop (mkF m 4 #[.val (.ref s_JUNCTION)] [(.ref s_FORK), (.ref s_JUNCTION)])) _
    refine Jvm.RoadKit.acmp (g := (mkF m 4 #[.val (.ref s_JUNCTION)] [(.ref s_FORK), (.ref s_JUNCTION)])) X1 hx rfl rfl rfl (pc0 := 4) (pc' := 7) (same := false) rfl (hb hby d1_4) rfl (decide_eq_false fun q => (Ne.symm ne_FORK_JUNCTION) (Value.ref.inj q)) (by decide) (by decide) ?_
    show Steps p.tables e below (T1.setTop (mkF m 7 #[.val (.ref s_JUNCTION)] [])) _
    refine XS.aloadN X1.here hx rfl (hb hby d1_7) rfl rfl ?_
    show Steps p.tables e below (T1.setTop (mkF m 8 #[.val (.ref s_JUNCTION)] [(.ref s_JUNCTION)])) _
    refine st2 _ ?_
    show Steps p.tables e below (T2.setTop (mkF m 11 #[.val (.ref s_JUNCTION)] [(.ref s_JOIN), (.ref s_JUNCTION)])) _
    refine Jvm.RoadKit.acmp (g := (mkF m 11 #[.val (.ref s_JUNCTION)] [(.ref s_JOIN), (.ref s_JUNCTION)])) X2 hx rfl rfl rfl (pc0 := 11) (pc' := 18) (same := false) rfl (hb hby d1_11) rfl (decide_eq_false fun q => (Ne.symm ne_JOIN_JUNCTION) (Value.ref.inj q)) (by decide) (by decide) ?_
    show Steps p.tables e below (T2.setTop (mkF m 18 #[.val (.ref s_JUNCTION)] [])) _
    refine XS.iconst X2.here hx rfl (hb hby d1_18) ?_
    show Steps p.tables e below (T2.setTop (mkF m 19 #[.val (.ref s_JUNCTION)] [(.int (0 : Int32))])) _
    exact retN X2 hx (t := .boolean) Bd.returns (by simp) (hb hby d1_19) hr
  · exact ⟨rfl, N0, e2⟩
set_option maxRecDepth 65536 in
set_option maxHeartbeats 40000000 in
theorem law_k0 (l : Launch) (Z : State) (a0 : Array Value) (hw : ∀ d ∈ tables_1, d.before a0 Z = true) (ws : List Jvm.Cond) (h0 : Heap) (n0 : Nat) (s_JUNCTION : Addr) (s_FORK : Addr) (s_JOIN : Addr) (s_CHOICE : Addr) (s_ENTRY_POINT : Addr) (s_EXIT_POINT : Addr) (s_SHALLOW_HISTORY : Addr) (s_DEEP_HISTORY : Addr) (s_TERMINATE : Addr) (K : Ctx Z h0 s_JUNCTION s_FORK s_JOIN s_CHOICE s_ENTRY_POINT s_EXIT_POINT s_SHALLOW_HISTORY s_DEEP_HISTORY s_TERMINATE) (p0 : Int32) (hp0 : ((p0 &&& (2147483647 : Int32)) % (9 : Int32)) = (0 : Int32)) :
    MetFree l x (head1 (Jvm.Cond.code x code maxLocals ret :: ws) room_1) (fun a U => a = #[(.int p0)] ∧ Z.Warmed39 U.vm ∧ U.heap = h0) (fun _ _ _ _ _ => True) (fun _ U o U' => ∃ v L, o = .returned v ∧ QV (.int (1 : Int32)) h0 n0 v U'.heap L ∧ FrameEnd U o U' L room_1.cells room_1.slots) := by
  obtain ⟨S_JUNCTION, S_FORK, ne_FORK_JUNCTION, S_JOIN, ne_JOIN_JUNCTION, E_JUNCTION, S_CHOICE, ne_CHOICE_FORK, ne_CHOICE_JOIN, E_CHOICE, S_ENTRY_POINT, ne_ENTRY_POINT_FORK, ne_ENTRY_POINT_JOIN, E_ENTRY_POINT, S_EXIT_POINT, ne_EXIT_POINT_FORK, ne_EXIT_POINT_JOIN, E_EXIT_POINT, S_SHALLOW_HISTORY, ne_FORK_SHALLOW_HISTORY, ne_JOIN_SHALLOW_HISTORY, E_SHALLOW_HISTORY, S_DEEP_HISTORY, ne_DEEP_HISTORY_FORK, ne_DEEP_HISTORY_JOIN, E_DEEP_HISTORY, E_FORK, ne_FORK_JOIN, E_JOIN, S_TERMINATE, ne_FORK_TERMINATE, ne_JOIN_TERMINATE, E_TERMINATE⟩ := id K
  refine MetFree.of_bodySF (plainFor_of_name pn2) hisR ?_
  intro p e s m args below meth c s₁ Bd hml0 hP hK
  obtain ⟨rfl, hZ, hh⟩ := hP
  have hx := Bd.exec
  have hby := Bd.bytes
  have hml : c.maxLocals = 4 := hml0
  have hown : s.vm.findClass "com/example/regionwise/regionwise/core/PseudostateKindSpansRegionsPinLaw" = some m.cls := findClass_of_methodNamed Bd.named
  have X0 : Stand p l e room_1 s m #[(.int p0)] below meth c s₁ [] 0 0 := Stand.of_body Bd
  have e0 : s₁.heap = h0 := by rw [← hh, Bd.state]; rfl
  have N0 := Fr.nil n0
  have pre0 : ∀ t, Steps p.tables e below (s₁.setTop (mkF m 0 #[.val (.int p0), .unset, .unset, .unset] [])) t → Steps p.tables e below (s₁.setTop (entryFrame m #[(.int p0)] maxLocals)) t := fun t k => castTop (by first | (simp [entryFrame, mkF, argsToLocals, Value.category, maxLocals]; done) | rfl) k
  obtain ⟨_, _, ⟨T1, L1, k1, n1⟩, -, X1, ⟨Lc1, hQ1, l1, y1, z1⟩, st1⟩ := Jvm.LawKit.callS X0 hx (y := (⟨"com/example/regionwise/regionwise/core/PseudostateKindSpansRegionsPinLaw", "pick", "(I)Lcom/example/regionwise/regionwise/core/PseudostateKind;"⟩ : MethodName)) hown (mvT hZ (hw _ (List.mem_of_getElem? (i := 1) rfl))) (mvT hZ (hw _ (List.mem_of_getElem? (i := 2) rfl))) (mvT hZ (hw _ (List.mem_of_getElem? (i := 3) rfl))) (mvT hZ (hw _ (List.mem_of_getElem? (i := 4) rfl))) (by decide) (backOf (W := 0) (r0 l Z a0 hw [] h0 n0 s_JUNCTION s_FORK s_JOIN s_CHOICE s_ENTRY_POINT s_EXIT_POINT s_SHALLOW_HISTORY s_DEEP_HISTORY s_TERMINATE K) hZ (hw _ (List.mem_of_getElem? (i := 4) rfl)) (hw _ (List.mem_of_getElem? (i := 3) rfl)) (by decide) (by decide)) (g := (mkF m 9 #[.val (.int p0), .val (.int (0 : Int32)), .unset, .unset] [(.int (0 : Int32))])) rfl (by rw [hml]; rfl) (argsL := [(.int (0 : Int32))]) (rest := []) (lenOf pd0 rfl) rfl (by show 2 * 0 + _ ≤ _; exact Nat.le_of_eq rfl) (hb hby at_9) (fun _ _ => ⟨rfl, e0, (by decide : 0 + 0 ≤ _), (by decide : 0 + 0 ≤ _)⟩)
  dsimp only [Pt.U, Pt.locs, Pt.cells, Pt.slots] at X1 l1 y1 z1 st1 hQ1
  subst l1 y1 z1
  obtain ⟨rfl, N1q, e1⟩ := hQ1
  have N1 := Fr.app N0 N1q
  obtain ⟨cq2, kq2, q2a, q2b, q2c⟩ := isOf hZ e1 E_JUNCTION
  obtain ⟨_, _, ⟨T2, L2, k2, n2⟩, -, X2, ⟨Lc2, hQ2, l2, y2, z2⟩, st2⟩ := X1.virtualBack hx (y := (⟨"com/example/regionwise/regionwise/core/PseudostateKind", "spansRegions", "()Z"⟩ : MethodName)) (z := (⟨"com/example/regionwise/regionwise/core/PseudostateKind", "spansRegions", "()Z"⟩ : MethodName)) hown (mvT hZ (hw _ (List.mem_of_getElem? (i := 8) rfl))) (mvT hZ (hw _ (List.mem_of_getElem? (i := 9) rfl))) (notFace_of_selects (args := #[]) (mvT hZ (hw _ (List.mem_of_getElem? (i := 11) rfl)))) (mvT hZ (hw _ (List.mem_of_getElem? (i := 11) rfl))) (mvT hZ (hw _ (List.mem_of_getElem? (i := 10) rfl))) (by decide) (backOf (W := 0) (r1 l Z a0 hw [] h0 n0 s_JUNCTION s_FORK s_JOIN s_CHOICE s_ENTRY_POINT s_EXIT_POINT s_SHALLOW_HISTORY s_DEEP_HISTORY s_TERMINATE K) hZ (hw _ (List.mem_of_getElem? (i := 12) rfl)) (hw _ (List.mem_of_getElem? (i := 6) rfl)) (by decide) (by decide)) q2a q2c (g := (mkF m 32 #[.val (.int p0), .val (.int (0 : Int32)), .val (.ref s_JUNCTION), .val (.int (0 : Int32))] [(.ref s_JUNCTION)])) rfl (by rw [hml]; rfl) (Steps.refl _) (argsL := []) (rest := []) (lenOf pd1 rfl) rfl (by show 2 * 0 + _ ≤ _; exact Nat.le_of_eq rfl) (hb hby at_32) (fun _ _ => ⟨rfl, e1, (by decide : 0 + 0 ≤ _), (by decide : 0 + 0 ≤ _)⟩)
  dsimp only [Pt.U, Pt.locs, Pt.cells, Pt.slots] at X2 l2 y2 z2 st2 hQ2
  subst l2 y2 z2
  obtain ⟨rfl, N2q, e2⟩ := hQ2
  have N2 := Fr.app N1 N2q
  obtain ⟨fs, hr, hrun, hended, hW, hsame⟩ := X2.leave (v := some (.int (1 : Int32))) (fun h => by rw [Bd.returns] at h; cases h)
  refine ⟨_, _, pre0 _ ?_, hrun, hended, _, _, rfl, ?_, ⟨_, rfl⟩, hW, hsame.mono (by decide) (by decide)⟩
  · show Steps p.tables e below (s₁.setTop (mkF m 0 #[.val (.int p0), .unset, .unset, .unset] [])) _
    refine XS.iloadN X0.here hx rfl (hb hby at_0) rfl ?_
    show Steps p.tables e below (s₁.setTop (mkF m 1 #[.val (.int p0), .unset, .unset, .unset] [(.int p0)])) _
    refine X0.ldcInt hx hown (mvT hZ (hw _ (List.mem_of_getElem? (i := 0) rfl))) (g := (mkF m 1 #[.val (.int p0), .unset, .unset, .unset] [(.int p0)])) rfl (hb hby at_1) _ ?_
    show Steps p.tables e below (s₁.setTop (mkF m 3 #[.val (.int p0), .unset, .unset, .unset] [(.int (2147483647 : Int32)), (.int p0)])) _
    refine XS.iand X0.here hx rfl (hb hby at_3) rfl ?_
    show Steps p.tables e below (s₁.setTop (mkF m 4 #[.val (.int p0), .unset, .unset, .unset] [(.int (p0 &&& (2147483647 : Int32)))])) _
    refine XS.bipush X0.here hx rfl (hb hby at_4) ?_
    show Steps p.tables e below (s₁.setTop (mkF m 6 #[.val (.int p0), .unset, .unset, .unset] [(.int (9 : Int32)), (.int (p0 &&& (2147483647 : Int32)))])) _
    refine Jvm.RoadKit.iremM X0 hx rfl (hb hby at_6) rfl (by decide) ?_
    show Steps p.tables e below (s₁.setTop (mkF m 7 #[.val (.int p0), .unset, .unset, .unset] [(.int ((p0 &&& (2147483647 : Int32)) % (9 : Int32)))])) _
    rw [hp0]
    show Steps p.tables e below (s₁.setTop (mkF m 7 #[.val (.int p0), .unset, .unset, .unset] [(.int (0 : Int32))])) _
    refine XS.istoreN X0.here hx rfl (hb hby at_7) rfl (l' := #[.val (.int p0), .val (.int (0 : Int32)), .unset, .unset]) rfl ?_
    show Steps p.tables e below (s₁.setTop (mkF m 8 #[.val (.int p0), .val (.int (0 : Int32)), .unset, .unset] [])) _
    refine XS.iloadN X0.here hx rfl (hb hby at_8) rfl ?_
    show Steps p.tables e below (s₁.setTop (mkF m 9 #[.val (.int p0), .val (.int (0 : Int32)), .unset, .unset] [(.int (0 : Int32))])) _
    refine st1 _ ?_
    show Steps p.tables e below (T1.setTop (mkF m 12 #[.val (.int p0), .val (.int (0 : Int32)), .unset, .unset] [(.ref s_JUNCTION)])) _
    refine XS.astoreN X1.here hx rfl (hb hby at_12) rfl rfl (l' := #[.val (.int p0), .val (.int (0 : Int32)), .val (.ref s_JUNCTION), .unset]) rfl ?_
    show Steps p.tables e below (T1.setTop (mkF m 13 #[.val (.int p0), .val (.int (0 : Int32)), .val (.ref s_JUNCTION), .unset] [])) _
    refine XS.iloadN X1.here hx rfl (hb hby at_13) rfl ?_
    show Steps p.tables e below (T1.setTop (mkF m 14 #[.val (.int p0), .val (.int (0 : Int32)), .val (.ref s_JUNCTION), .unset] [(.int (0 : Int32))])) _
    refine XS.bipush X1.here hx rfl (hb hby at_14) ?_
    show Steps p.tables e below (T1.setTop (mkF m 16 #[.val (.int p0), .val (.int (0 : Int32)), .val (.ref s_JUNCTION), .unset] [(.int (6 : Int32)), (.int (0 : Int32))])) _
    refine XS.icmpNo X1.here hx rfl (hb hby at_16) rfl (by decide +kernel) ?_
    show Steps p.tables e below (T1.setTop (mkF m 19 #[.val (.int p0), .val (.int (0 : Int32)), .val (.ref s_JUNCTION), .unset] [])) _
    refine XS.iloadN X1.here hx rfl (hb hby at_19) rfl ?_
    show Steps p.tables e below (T1.setTop (mkF m 20 #[.val (.int p0), .val (.int (0 : Int32)), .val (.ref s_JUNCTION), .unset] [(.int (0 : Int32))])) _
    refine XS.bipush X1.here hx rfl (hb hby at_20) ?_
    show Steps p.tables e below (T1.setTop (mkF m 22 #[.val (.int p0), .val (.int (0 : Int32)), .val (.ref s_JUNCTION), .unset] [(.int (7 : Int32)), (.int (0 : Int32))])) _
    refine XS.icmpYes X1.here hx rfl (pc0 := 22) (pc' := 29) rfl (hb hby at_22) rfl (by decide +kernel) (by decide) (by decide) ?_
    show Steps p.tables e below (T1.setTop (mkF m 29 #[.val (.int p0), .val (.int (0 : Int32)), .val (.ref s_JUNCTION), .unset] [])) _
    refine XS.iconst X1.here hx rfl (hb hby at_29) ?_
    show Steps p.tables e below (T1.setTop (mkF m 30 #[.val (.int p0), .val (.int (0 : Int32)), .val (.ref s_JUNCTION), .unset] [(.int (0 : Int32))])) _
    refine XS.istoreN X1.here hx rfl (hb hby at_30) rfl (l' := #[.val (.int p0), .val (.int (0 : Int32)), .val (.ref s_JUNCTION), .val (.int (0 : Int32))]) rfl ?_
    show Steps p.tables e below (T1.setTop (mkF m 31 #[.val (.int p0), .val (.int (0 : Int32)), .val (.ref s_JUNCTION), .val (.int (0 : Int32))] [])) _
    refine XS.aloadN X1.here hx rfl (hb hby at_31) rfl rfl ?_
    show Steps p.tables e below (T1.setTop (mkF m 32 #[.val (.int p0), .val (.int (0 : Int32)), .val (.ref s_JUNCTION), .val (.int (0 : Int32))] [(.ref s_JUNCTION)])) _
    refine st2.trans ?_
    show Steps p.tables e below (T2.setTop (mkF m 35 #[.val (.int p0), .val (.int (0 : Int32)), .val (.ref s_JUNCTION), .val (.int (0 : Int32))] [(.int (0 : Int32))])) _
    refine XS.iloadN X2.here hx rfl (hb hby at_35) rfl ?_
    show Steps p.tables e below (T2.setTop (mkF m 36 #[.val (.int p0), .val (.int (0 : Int32)), .val (.ref s_JUNCTION), .val (.int (0 : Int32))] [(.int (0 : Int32)), (.int (0 : Int32))])) _
    refine XS.icmpNo X2.here hx rfl (hb hby at_36) rfl (by decide +kernel) ?_
    show Steps p.tables e below (T2.setTop (mkF m 39 #[.val (.int p0), .val (.int (0 : Int32)), .val (.ref s_JUNCTION), .val (.int (0 : Int32))] [])) _
    refine XS.iconst X2.here hx rfl (hb hby at_39) ?_
    show Steps p.tables e below (T2.setTop (mkF m 40 #[.val (.int p0), .val (.int (0 : Int32)), .val (.ref s_JUNCTION), .val (.int (0 : Int32))] [(.int (1 : Int32))])) _
    refine XS.goto X2.here hx rfl (pc0 := 40) (pc' := 44) rfl (hb hby at_40) (by decide) (by decide) ?_
    show Steps p.tables e below (T2.setTop (mkF m 44 #[.val (.int p0), .val (.int (0 : Int32)), .val (.ref s_JUNCTION), .val (.int (0 : Int32))] [(.int (1 : Int32))])) _
    exact retN X2 hx (t := .boolean) Bd.returns (by simp) (hb hby at_44) hr
  · exact ⟨rfl, N2, e2⟩
set_option maxRecDepth 65536 in
set_option maxHeartbeats 40000000 in
theorem r3 (l : Launch) (Z : State) (a0 : Array Value) (hw : ∀ d ∈ tables_1, d.before a0 Z = true) (ws : List Jvm.Cond) (h0 : Heap) (n0 : Nat) (s_JUNCTION : Addr) (s_FORK : Addr) (s_JOIN : Addr) (s_CHOICE : Addr) (s_ENTRY_POINT : Addr) (s_EXIT_POINT : Addr) (s_SHALLOW_HISTORY : Addr) (s_DEEP_HISTORY : Addr) (s_TERMINATE : Addr) (K : Ctx Z h0 s_JUNCTION s_FORK s_JOIN s_CHOICE s_ENTRY_POINT s_EXIT_POINT s_SHALLOW_HISTORY s_DEEP_HISTORY s_TERMINATE) :
    MetFree l (⟨"com/example/regionwise/regionwise/core/PseudostateKindSpansRegionsPinLaw", "pick", "(I)Lcom/example/regionwise/regionwise/core/PseudostateKind;"⟩ : MethodName) (head1 (Jvm.Cond.code (⟨"com/example/regionwise/regionwise/core/PseudostateKindSpansRegionsPinLaw", "pick", "(I)Lcom/example/regionwise/regionwise/core/PseudostateKind;"⟩ : MethodName) method_2_code 1 (some (.object "com/example/regionwise/regionwise/core/PseudostateKind")) :: ws) ({ frames := 0, cells := 0, slots := 0, locals := 0 } : Room)) (fun a U => a = #[(.int (1 : Int32))] ∧ Z.Warmed39 U.vm ∧ U.heap = h0) (fun _ _ _ _ _ => True) (fun _ U o U' => ∃ v L, o = .returned v ∧ QV (.ref s_CHOICE) h0 n0 v U'.heap L ∧ FrameEnd U o U' L ({ frames := 0, cells := 0, slots := 0, locals := 0 } : Room).cells ({ frames := 0, cells := 0, slots := 0, locals := 0 } : Room).slots) := by
  obtain ⟨S_JUNCTION, S_FORK, ne_FORK_JUNCTION, S_JOIN, ne_JOIN_JUNCTION, E_JUNCTION, S_CHOICE, ne_CHOICE_FORK, ne_CHOICE_JOIN, E_CHOICE, S_ENTRY_POINT, ne_ENTRY_POINT_FORK, ne_ENTRY_POINT_JOIN, E_ENTRY_POINT, S_EXIT_POINT, ne_EXIT_POINT_FORK, ne_EXIT_POINT_JOIN, E_EXIT_POINT, S_SHALLOW_HISTORY, ne_FORK_SHALLOW_HISTORY, ne_JOIN_SHALLOW_HISTORY, E_SHALLOW_HISTORY, S_DEEP_HISTORY, ne_DEEP_HISTORY_FORK, ne_DEEP_HISTORY_JOIN, E_DEEP_HISTORY, E_FORK, ne_FORK_JOIN, E_JOIN, S_TERMINATE, ne_FORK_TERMINATE, ne_JOIN_TERMINATE, E_TERMINATE⟩ := id K
  refine MetFree.of_bodySF (plainFor_of_name pn0) hisR ?_
  intro p e s m args below meth c s₁ Bd hml0 hP hK
  obtain ⟨rfl, hZ, hh⟩ := hP
  have hx := Bd.exec
  have hby := Bd.bytes
  have hml : c.maxLocals = 1 := hml0
  have hown : s.vm.findClass "com/example/regionwise/regionwise/core/PseudostateKindSpansRegionsPinLaw" = some m.cls := findClass_of_methodNamed Bd.named
  have X0 : Stand p l e ({ frames := 0, cells := 0, slots := 0, locals := 0 } : Room) s m #[(.int (1 : Int32))] below meth c s₁ [] 0 0 := Stand.of_body Bd
  have e0 : s₁.heap = h0 := by rw [← hh, Bd.state]; rfl
  have N0 := Fr.nil n0
  have pre0 : ∀ t, Steps p.tables e below (s₁.setTop (mkF m 0 #[.val (.int (1 : Int32))] [])) t → Steps p.tables e below (s₁.setTop (entryFrame m #[(.int (1 : Int32))] 1)) t := fun t k => castTop (by first | (simp [entryFrame, mkF, argsToLocals, Value.category]; done) | rfl) k
  obtain ⟨T1, X1, e1, st1⟩ := getS X0 hx hZ hown (host := "") (hw _ (List.mem_of_getElem? (i := 21) rfl)) Via.refl e0 S_CHOICE (g := (mkF m 13 #[.val (.int (1 : Int32))] [])) rfl (hb hby d0_13)
  obtain ⟨fs, hr, hrun, hended, hW, hsame⟩ := X1.leave (v := some (.ref s_CHOICE)) (fun h => by rw [Bd.returns] at h; cases h)
  refine ⟨_, _, pre0 _ ?_, hrun, hended, _, _, rfl, ?_, ⟨_, rfl⟩, hW, hsame.mono (by decide) (by decide)⟩
  · show Steps p.tables e below (s₁.setTop (mkF m 0 #[.val (.int (1 : Int32))] [])) _
    refine XS.iloadN X0.here hx rfl (hb hby d0_0) rfl ?_
    show Steps p.tables e below (s₁.setTop (mkF m 1 #[.val (.int (1 : Int32))] [(.int (1 : Int32))])) _
    refine XS.ifYes X0.here hx rfl (pc0 := 1) (pc' := 8) rfl (hb hby d0_1) rfl (by decide +kernel) (by decide) (by decide) ?_
    show Steps p.tables e below (s₁.setTop (mkF m 8 #[.val (.int (1 : Int32))] [])) _
    refine XS.iloadN X0.here hx rfl (hb hby d0_8) rfl ?_
    show Steps p.tables e below (s₁.setTop (mkF m 9 #[.val (.int (1 : Int32))] [(.int (1 : Int32))])) _
    refine XS.iconst X0.here hx rfl (hb hby d0_9) ?_
    show Steps p.tables e below (s₁.setTop (mkF m 10 #[.val (.int (1 : Int32))] [(.int (1 : Int32)), (.int (1 : Int32))])) _
    refine XS.icmpNo X0.here hx rfl (hb hby d0_10) rfl (by decide +kernel) ?_
    show Steps p.tables e below (s₁.setTop (mkF m 13 #[.val (.int (1 : Int32))] [])) _
    refine st1 _ ?_
    show Steps p.tables e below (T1.setTop (mkF m 16 #[.val (.int (1 : Int32))] [(.ref s_CHOICE)])) _
    exact retOut X1 hx (i := .areturn) Bd.returns rfl (Or.inr (Or.inr (Or.inr (Or.inr ⟨rfl, rfl, rfl⟩)))) (hb hby d0_16) hr
  · exact ⟨rfl, N0, e1⟩
set_option maxRecDepth 65536 in
set_option maxHeartbeats 40000000 in
theorem r4 (l : Launch) (Z : State) (a0 : Array Value) (hw : ∀ d ∈ tables_1, d.before a0 Z = true) (ws : List Jvm.Cond) (h0 : Heap) (n0 : Nat) (s_JUNCTION : Addr) (s_FORK : Addr) (s_JOIN : Addr) (s_CHOICE : Addr) (s_ENTRY_POINT : Addr) (s_EXIT_POINT : Addr) (s_SHALLOW_HISTORY : Addr) (s_DEEP_HISTORY : Addr) (s_TERMINATE : Addr) (K : Ctx Z h0 s_JUNCTION s_FORK s_JOIN s_CHOICE s_ENTRY_POINT s_EXIT_POINT s_SHALLOW_HISTORY s_DEEP_HISTORY s_TERMINATE) :
    MetFree l (⟨"com/example/regionwise/regionwise/core/PseudostateKind", "spansRegions", "()Z"⟩ : MethodName) (head1 (Jvm.Cond.code (⟨"com/example/regionwise/regionwise/core/PseudostateKind", "spansRegions", "()Z"⟩ : MethodName) prog_62_method_8_code 1 (some .boolean) :: ws) ({ frames := 0, cells := 0, slots := 0, locals := 0 } : Room)) (fun a U => a = #[(.ref s_CHOICE)] ∧ Z.Warmed39 U.vm ∧ U.heap = h0) (fun _ _ _ _ _ => True) (fun _ U o U' => ∃ v L, o = .returned v ∧ QV (.int (0 : Int32)) h0 n0 v U'.heap L ∧ FrameEnd U o U' L ({ frames := 0, cells := 0, slots := 0, locals := 0 } : Room).cells ({ frames := 0, cells := 0, slots := 0, locals := 0 } : Room).slots) := by
  obtain ⟨S_JUNCTION, S_FORK, ne_FORK_JUNCTION, S_JOIN, ne_JOIN_JUNCTION, E_JUNCTION, S_CHOICE, ne_CHOICE_FORK, ne_CHOICE_JOIN, E_CHOICE, S_ENTRY_POINT, ne_ENTRY_POINT_FORK, ne_ENTRY_POINT_JOIN, E_ENTRY_POINT, S_EXIT_POINT, ne_EXIT_POINT_FORK, ne_EXIT_POINT_JOIN, E_EXIT_POINT, S_SHALLOW_HISTORY, ne_FORK_SHALLOW_HISTORY, ne_JOIN_SHALLOW_HISTORY, E_SHALLOW_HISTORY, S_DEEP_HISTORY, ne_DEEP_HISTORY_FORK, ne_DEEP_HISTORY_JOIN, E_DEEP_HISTORY, E_FORK, ne_FORK_JOIN, E_JOIN, S_TERMINATE, ne_FORK_TERMINATE, ne_JOIN_TERMINATE, E_TERMINATE⟩ := id K
  refine MetFree.of_bodySF (plainFor_of_name pn1) hisR ?_
  intro p e s m args below meth c s₁ Bd hml0 hP hK
  obtain ⟨rfl, hZ, hh⟩ := hP
  have hx := Bd.exec
  have hby := Bd.bytes
  have hml : c.maxLocals = 1 := hml0
  have hown : s.vm.findClass "com/example/regionwise/regionwise/core/PseudostateKind" = some m.cls := findClass_of_methodNamed Bd.named
  have X0 : Stand p l e ({ frames := 0, cells := 0, slots := 0, locals := 0 } : Room) s m #[(.ref s_CHOICE)] below meth c s₁ [] 0 0 := Stand.of_body Bd
  have e0 : s₁.heap = h0 := by rw [← hh, Bd.state]; rfl
  have N0 := Fr.nil n0
  have pre0 : ∀ t, Steps p.tables e below (s₁.setTop (mkF m 0 #[.val (.ref s_CHOICE)] [])) t → Steps p.tables e below (s₁.setTop (entryFrame m #[(.ref s_CHOICE)] 1)) t := fun t k => castTop (by first | (simp [entryFrame, mkF, argsToLocals, Value.category]; done) | rfl) k
  obtain ⟨T1, X1, e1, st1⟩ := getS X0 hx hZ hown (host := "") (hw _ (List.mem_of_getElem? (i := 13) rfl)) Via.refl e0 S_FORK (g := (mkF m 1 #[.val (.ref s_CHOICE)] [(.ref s_CHOICE)])) rfl (hb hby d1_1)
  obtain ⟨T2, X2, e2, st2⟩ := getS X1 hx hZ hown (host := "") (hw _ (List.mem_of_getElem? (i := 15) rfl)) Via.refl e1 S_JOIN (g := (mkF m 8 #[.val (.ref s_CHOICE)] [(.ref s_CHOICE)])) rfl (hb hby d1_8)
  obtain ⟨fs, hr, hrun, hended, hW, hsame⟩ := X2.leave (v := some (.int (0 : Int32))) (fun h => by rw [Bd.returns] at h; cases h)
  refine ⟨_, _, pre0 _ ?_, hrun, hended, _, _, rfl, ?_, ⟨_, rfl⟩, hW, hsame.mono (by decide) (by decide)⟩
  · show Steps p.tables e below (s₁.setTop (mkF m 0 #[.val (.ref s_CHOICE)] [])) _
    refine XS.aloadN X0.here hx rfl (hb hby d1_0) rfl rfl ?_
    show Steps p.tables e below (s₁.setTop (mkF m 1 #[.val (.ref s_CHOICE)] [(.ref s_CHOICE)])) _
    refine st1 _ ?_
    show Steps p.tables e below (T1.setTop (mkF m 4 #[.val (.ref s_CHOICE)] [(.ref s_FORK), (.ref s_CHOICE)])) _
    refine Jvm.RoadKit.acmp (g := (mkF m 4 #[.val (.ref s_CHOICE)] [(.ref s_FORK), (.ref s_CHOICE)])) X1 hx rfl rfl rfl (pc0 := 4) (pc' := 7) (same := false) rfl (hb hby d1_4) rfl (decide_eq_false fun q => ne_CHOICE_FORK (Value.ref.inj q)) (by decide) (by decide) ?_
    show Steps p.tables e below (T1.setTop (mkF m 7 #[.val (.ref s_CHOICE)] [])) _
    refine XS.aloadN X1.here hx rfl (hb hby d1_7) rfl rfl ?_
    show Steps p.tables e below (T1.setTop (mkF m 8 #[.val (.ref s_CHOICE)] [(.ref s_CHOICE)])) _
    refine st2 _ ?_
    show Steps p.tables e below (T2.setTop (mkF m 11 #[.val (.ref s_CHOICE)] [(.ref s_JOIN), (.ref s_CHOICE)])) _
    refine Jvm.RoadKit.acmp (g := (mkF m 11 #[.val (.ref s_CHOICE)] [(.ref s_JOIN), (.ref s_CHOICE)])) X2 hx rfl rfl rfl (pc0 := 11) (pc' := 18) (same := false) rfl (hb hby d1_11) rfl (decide_eq_false fun q => ne_CHOICE_JOIN (Value.ref.inj q)) (by decide) (by decide) ?_
    show Steps p.tables e below (T2.setTop (mkF m 18 #[.val (.ref s_CHOICE)] [])) _
    refine XS.iconst X2.here hx rfl (hb hby d1_18) ?_
    show Steps p.tables e below (T2.setTop (mkF m 19 #[.val (.ref s_CHOICE)] [(.int (0 : Int32))])) _
    exact retN X2 hx (t := .boolean) Bd.returns (by simp) (hb hby d1_19) hr
  · exact ⟨rfl, N0, e2⟩
set_option maxRecDepth 65536 in
set_option maxHeartbeats 40000000 in
theorem law_k1 (l : Launch) (Z : State) (a0 : Array Value) (hw : ∀ d ∈ tables_1, d.before a0 Z = true) (ws : List Jvm.Cond) (h0 : Heap) (n0 : Nat) (s_JUNCTION : Addr) (s_FORK : Addr) (s_JOIN : Addr) (s_CHOICE : Addr) (s_ENTRY_POINT : Addr) (s_EXIT_POINT : Addr) (s_SHALLOW_HISTORY : Addr) (s_DEEP_HISTORY : Addr) (s_TERMINATE : Addr) (K : Ctx Z h0 s_JUNCTION s_FORK s_JOIN s_CHOICE s_ENTRY_POINT s_EXIT_POINT s_SHALLOW_HISTORY s_DEEP_HISTORY s_TERMINATE) (p0 : Int32) (hp0 : ((p0 &&& (2147483647 : Int32)) % (9 : Int32)) = (1 : Int32)) :
    MetFree l x (head1 (Jvm.Cond.code x code maxLocals ret :: ws) room_1) (fun a U => a = #[(.int p0)] ∧ Z.Warmed39 U.vm ∧ U.heap = h0) (fun _ _ _ _ _ => True) (fun _ U o U' => ∃ v L, o = .returned v ∧ QV (.int (1 : Int32)) h0 n0 v U'.heap L ∧ FrameEnd U o U' L room_1.cells room_1.slots) := by
  obtain ⟨S_JUNCTION, S_FORK, ne_FORK_JUNCTION, S_JOIN, ne_JOIN_JUNCTION, E_JUNCTION, S_CHOICE, ne_CHOICE_FORK, ne_CHOICE_JOIN, E_CHOICE, S_ENTRY_POINT, ne_ENTRY_POINT_FORK, ne_ENTRY_POINT_JOIN, E_ENTRY_POINT, S_EXIT_POINT, ne_EXIT_POINT_FORK, ne_EXIT_POINT_JOIN, E_EXIT_POINT, S_SHALLOW_HISTORY, ne_FORK_SHALLOW_HISTORY, ne_JOIN_SHALLOW_HISTORY, E_SHALLOW_HISTORY, S_DEEP_HISTORY, ne_DEEP_HISTORY_FORK, ne_DEEP_HISTORY_JOIN, E_DEEP_HISTORY, E_FORK, ne_FORK_JOIN, E_JOIN, S_TERMINATE, ne_FORK_TERMINATE, ne_JOIN_TERMINATE, E_TERMINATE⟩ := id K
  refine MetFree.of_bodySF (plainFor_of_name pn2) hisR ?_
  intro p e s m args below meth c s₁ Bd hml0 hP hK
  obtain ⟨rfl, hZ, hh⟩ := hP
  have hx := Bd.exec
  have hby := Bd.bytes
  have hml : c.maxLocals = 4 := hml0
  have hown : s.vm.findClass "com/example/regionwise/regionwise/core/PseudostateKindSpansRegionsPinLaw" = some m.cls := findClass_of_methodNamed Bd.named
  have X0 : Stand p l e room_1 s m #[(.int p0)] below meth c s₁ [] 0 0 := Stand.of_body Bd
  have e0 : s₁.heap = h0 := by rw [← hh, Bd.state]; rfl
  have N0 := Fr.nil n0
  have pre0 : ∀ t, Steps p.tables e below (s₁.setTop (mkF m 0 #[.val (.int p0), .unset, .unset, .unset] [])) t → Steps p.tables e below (s₁.setTop (entryFrame m #[(.int p0)] maxLocals)) t := fun t k => castTop (by first | (simp [entryFrame, mkF, argsToLocals, Value.category, maxLocals]; done) | rfl) k
  obtain ⟨_, _, ⟨T1, L1, k1, n1⟩, -, X1, ⟨Lc1, hQ1, l1, y1, z1⟩, st1⟩ := Jvm.LawKit.callS X0 hx (y := (⟨"com/example/regionwise/regionwise/core/PseudostateKindSpansRegionsPinLaw", "pick", "(I)Lcom/example/regionwise/regionwise/core/PseudostateKind;"⟩ : MethodName)) hown (mvT hZ (hw _ (List.mem_of_getElem? (i := 1) rfl))) (mvT hZ (hw _ (List.mem_of_getElem? (i := 2) rfl))) (mvT hZ (hw _ (List.mem_of_getElem? (i := 3) rfl))) (mvT hZ (hw _ (List.mem_of_getElem? (i := 4) rfl))) (by decide) (backOf (W := 0) (r3 l Z a0 hw [] h0 n0 s_JUNCTION s_FORK s_JOIN s_CHOICE s_ENTRY_POINT s_EXIT_POINT s_SHALLOW_HISTORY s_DEEP_HISTORY s_TERMINATE K) hZ (hw _ (List.mem_of_getElem? (i := 4) rfl)) (hw _ (List.mem_of_getElem? (i := 3) rfl)) (by decide) (by decide)) (g := (mkF m 9 #[.val (.int p0), .val (.int (1 : Int32)), .unset, .unset] [(.int (1 : Int32))])) rfl (by rw [hml]; rfl) (argsL := [(.int (1 : Int32))]) (rest := []) (lenOf pd0 rfl) rfl (by show 2 * 0 + _ ≤ _; exact Nat.le_of_eq rfl) (hb hby at_9) (fun _ _ => ⟨rfl, e0, (by decide : 0 + 0 ≤ _), (by decide : 0 + 0 ≤ _)⟩)
  dsimp only [Pt.U, Pt.locs, Pt.cells, Pt.slots] at X1 l1 y1 z1 st1 hQ1
  subst l1 y1 z1
  obtain ⟨rfl, N1q, e1⟩ := hQ1
  have N1 := Fr.app N0 N1q
  obtain ⟨cq2, kq2, q2a, q2b, q2c⟩ := isOf hZ e1 E_CHOICE
  obtain ⟨_, _, ⟨T2, L2, k2, n2⟩, -, X2, ⟨Lc2, hQ2, l2, y2, z2⟩, st2⟩ := X1.virtualBack hx (y := (⟨"com/example/regionwise/regionwise/core/PseudostateKind", "spansRegions", "()Z"⟩ : MethodName)) (z := (⟨"com/example/regionwise/regionwise/core/PseudostateKind", "spansRegions", "()Z"⟩ : MethodName)) hown (mvT hZ (hw _ (List.mem_of_getElem? (i := 8) rfl))) (mvT hZ (hw _ (List.mem_of_getElem? (i := 9) rfl))) (notFace_of_selects (args := #[]) (mvT hZ (hw _ (List.mem_of_getElem? (i := 11) rfl)))) (mvT hZ (hw _ (List.mem_of_getElem? (i := 11) rfl))) (mvT hZ (hw _ (List.mem_of_getElem? (i := 10) rfl))) (by decide) (backOf (W := 0) (r4 l Z a0 hw [] h0 n0 s_JUNCTION s_FORK s_JOIN s_CHOICE s_ENTRY_POINT s_EXIT_POINT s_SHALLOW_HISTORY s_DEEP_HISTORY s_TERMINATE K) hZ (hw _ (List.mem_of_getElem? (i := 12) rfl)) (hw _ (List.mem_of_getElem? (i := 6) rfl)) (by decide) (by decide)) q2a q2c (g := (mkF m 32 #[.val (.int p0), .val (.int (1 : Int32)), .val (.ref s_CHOICE), .val (.int (0 : Int32))] [(.ref s_CHOICE)])) rfl (by rw [hml]; rfl) (Steps.refl _) (argsL := []) (rest := []) (lenOf pd1 rfl) rfl (by show 2 * 0 + _ ≤ _; exact Nat.le_of_eq rfl) (hb hby at_32) (fun _ _ => ⟨rfl, e1, (by decide : 0 + 0 ≤ _), (by decide : 0 + 0 ≤ _)⟩)
  dsimp only [Pt.U, Pt.locs, Pt.cells, Pt.slots] at X2 l2 y2 z2 st2 hQ2
  subst l2 y2 z2
  obtain ⟨rfl, N2q, e2⟩ := hQ2
  have N2 := Fr.app N1 N2q
  obtain ⟨fs, hr, hrun, hended, hW, hsame⟩ := X2.leave (v := some (.int (1 : Int32))) (fun h => by rw [Bd.returns] at h; cases h)
  refine ⟨_, _, pre0 _ ?_, hrun, hended, _, _, rfl, ?_, ⟨_, rfl⟩, hW, hsame.mono (by decide) (by decide)⟩
  · show Steps p.tables e below (s₁.setTop (mkF m 0 #[.val (.int p0), .unset, .unset, .unset] [])) _
    refine XS.iloadN X0.here hx rfl (hb hby at_0) rfl ?_
    show Steps p.tables e below (s₁.setTop (mkF m 1 #[.val (.int p0), .unset, .unset, .unset] [(.int p0)])) _
    refine X0.ldcInt hx hown (mvT hZ (hw _ (List.mem_of_getElem? (i := 0) rfl))) (g := (mkF m 1 #[.val (.int p0), .unset, .unset, .unset] [(.int p0)])) rfl (hb hby at_1) _ ?_
    show Steps p.tables e below (s₁.setTop (mkF m 3 #[.val (.int p0), .unset, .unset, .unset] [(.int (2147483647 : Int32)), (.int p0)])) _
    refine XS.iand X0.here hx rfl (hb hby at_3) rfl ?_
    show Steps p.tables e below (s₁.setTop (mkF m 4 #[.val (.int p0), .unset, .unset, .unset] [(.int (p0 &&& (2147483647 : Int32)))])) _
    refine XS.bipush X0.here hx rfl (hb hby at_4) ?_
    show Steps p.tables e below (s₁.setTop (mkF m 6 #[.val (.int p0), .unset, .unset, .unset] [(.int (9 : Int32)), (.int (p0 &&& (2147483647 : Int32)))])) _
    refine Jvm.RoadKit.iremM X0 hx rfl (hb hby at_6) rfl (by decide) ?_
    show Steps p.tables e below (s₁.setTop (mkF m 7 #[.val (.int p0), .unset, .unset, .unset] [(.int ((p0 &&& (2147483647 : Int32)) % (9 : Int32)))])) _
    rw [hp0]
    show Steps p.tables e below (s₁.setTop (mkF m 7 #[.val (.int p0), .unset, .unset, .unset] [(.int (1 : Int32))])) _
    refine XS.istoreN X0.here hx rfl (hb hby at_7) rfl (l' := #[.val (.int p0), .val (.int (1 : Int32)), .unset, .unset]) rfl ?_
    show Steps p.tables e below (s₁.setTop (mkF m 8 #[.val (.int p0), .val (.int (1 : Int32)), .unset, .unset] [])) _
    refine XS.iloadN X0.here hx rfl (hb hby at_8) rfl ?_
    show Steps p.tables e below (s₁.setTop (mkF m 9 #[.val (.int p0), .val (.int (1 : Int32)), .unset, .unset] [(.int (1 : Int32))])) _
    refine st1 _ ?_
    show Steps p.tables e below (T1.setTop (mkF m 12 #[.val (.int p0), .val (.int (1 : Int32)), .unset, .unset] [(.ref s_CHOICE)])) _
    refine XS.astoreN X1.here hx rfl (hb hby at_12) rfl rfl (l' := #[.val (.int p0), .val (.int (1 : Int32)), .val (.ref s_CHOICE), .unset]) rfl ?_
    show Steps p.tables e below (T1.setTop (mkF m 13 #[.val (.int p0), .val (.int (1 : Int32)), .val (.ref s_CHOICE), .unset] [])) _
    refine XS.iloadN X1.here hx rfl (hb hby at_13) rfl ?_
    show Steps p.tables e below (T1.setTop (mkF m 14 #[.val (.int p0), .val (.int (1 : Int32)), .val (.ref s_CHOICE), .unset] [(.int (1 : Int32))])) _
    refine XS.bipush X1.here hx rfl (hb hby at_14) ?_
    show Steps p.tables e below (T1.setTop (mkF m 16 #[.val (.int p0), .val (.int (1 : Int32)), .val (.ref s_CHOICE), .unset] [(.int (6 : Int32)), (.int (1 : Int32))])) _
    refine XS.icmpNo X1.here hx rfl (hb hby at_16) rfl (by decide +kernel) ?_
    show Steps p.tables e below (T1.setTop (mkF m 19 #[.val (.int p0), .val (.int (1 : Int32)), .val (.ref s_CHOICE), .unset] [])) _
    refine XS.iloadN X1.here hx rfl (hb hby at_19) rfl ?_
    show Steps p.tables e below (T1.setTop (mkF m 20 #[.val (.int p0), .val (.int (1 : Int32)), .val (.ref s_CHOICE), .unset] [(.int (1 : Int32))])) _
    refine XS.bipush X1.here hx rfl (hb hby at_20) ?_
    show Steps p.tables e below (T1.setTop (mkF m 22 #[.val (.int p0), .val (.int (1 : Int32)), .val (.ref s_CHOICE), .unset] [(.int (7 : Int32)), (.int (1 : Int32))])) _
    refine XS.icmpYes X1.here hx rfl (pc0 := 22) (pc' := 29) rfl (hb hby at_22) rfl (by decide +kernel) (by decide) (by decide) ?_
    show Steps p.tables e below (T1.setTop (mkF m 29 #[.val (.int p0), .val (.int (1 : Int32)), .val (.ref s_CHOICE), .unset] [])) _
    refine XS.iconst X1.here hx rfl (hb hby at_29) ?_
    show Steps p.tables e below (T1.setTop (mkF m 30 #[.val (.int p0), .val (.int (1 : Int32)), .val (.ref s_CHOICE), .unset] [(.int (0 : Int32))])) _
    refine XS.istoreN X1.here hx rfl (hb hby at_30) rfl (l' := #[.val (.int p0), .val (.int (1 : Int32)), .val (.ref s_CHOICE), .val (.int (0 : Int32))]) rfl ?_
    show Steps p.tables e below (T1.setTop (mkF m 31 #[.val (.int p0), .val (.int (1 : Int32)), .val (.ref s_CHOICE), .val (.int (0 : Int32))] [])) _
    refine XS.aloadN X1.here hx rfl (hb hby at_31) rfl rfl ?_
    show Steps p.tables e below (T1.setTop (mkF m 32 #[.val (.int p0), .val (.int (1 : Int32)), .val (.ref s_CHOICE), .val (.int (0 : Int32))] [(.ref s_CHOICE)])) _
    refine st2.trans ?_
    show Steps p.tables e below (T2.setTop (mkF m 35 #[.val (.int p0), .val (.int (1 : Int32)), .val (.ref s_CHOICE), .val (.int (0 : Int32))] [(.int (0 : Int32))])) _
    refine XS.iloadN X2.here hx rfl (hb hby at_35) rfl ?_
    show Steps p.tables e below (T2.setTop (mkF m 36 #[.val (.int p0), .val (.int (1 : Int32)), .val (.ref s_CHOICE), .val (.int (0 : Int32))] [(.int (0 : Int32)), (.int (0 : Int32))])) _
    refine XS.icmpNo X2.here hx rfl (hb hby at_36) rfl (by decide +kernel) ?_
    show Steps p.tables e below (T2.setTop (mkF m 39 #[.val (.int p0), .val (.int (1 : Int32)), .val (.ref s_CHOICE), .val (.int (0 : Int32))] [])) _
    refine XS.iconst X2.here hx rfl (hb hby at_39) ?_
    show Steps p.tables e below (T2.setTop (mkF m 40 #[.val (.int p0), .val (.int (1 : Int32)), .val (.ref s_CHOICE), .val (.int (0 : Int32))] [(.int (1 : Int32))])) _
    refine XS.goto X2.here hx rfl (pc0 := 40) (pc' := 44) rfl (hb hby at_40) (by decide) (by decide) ?_
    show Steps p.tables e below (T2.setTop (mkF m 44 #[.val (.int p0), .val (.int (1 : Int32)), .val (.ref s_CHOICE), .val (.int (0 : Int32))] [(.int (1 : Int32))])) _
    exact retN X2 hx (t := .boolean) Bd.returns (by simp) (hb hby at_44) hr
  · exact ⟨rfl, N2, e2⟩
set_option maxRecDepth 65536 in
set_option maxHeartbeats 40000000 in
theorem r6 (l : Launch) (Z : State) (a0 : Array Value) (hw : ∀ d ∈ tables_1, d.before a0 Z = true) (ws : List Jvm.Cond) (h0 : Heap) (n0 : Nat) (s_JUNCTION : Addr) (s_FORK : Addr) (s_JOIN : Addr) (s_CHOICE : Addr) (s_ENTRY_POINT : Addr) (s_EXIT_POINT : Addr) (s_SHALLOW_HISTORY : Addr) (s_DEEP_HISTORY : Addr) (s_TERMINATE : Addr) (K : Ctx Z h0 s_JUNCTION s_FORK s_JOIN s_CHOICE s_ENTRY_POINT s_EXIT_POINT s_SHALLOW_HISTORY s_DEEP_HISTORY s_TERMINATE) :
    MetFree l (⟨"com/example/regionwise/regionwise/core/PseudostateKindSpansRegionsPinLaw", "pick", "(I)Lcom/example/regionwise/regionwise/core/PseudostateKind;"⟩ : MethodName) (head1 (Jvm.Cond.code (⟨"com/example/regionwise/regionwise/core/PseudostateKindSpansRegionsPinLaw", "pick", "(I)Lcom/example/regionwise/regionwise/core/PseudostateKind;"⟩ : MethodName) method_2_code 1 (some (.object "com/example/regionwise/regionwise/core/PseudostateKind")) :: ws) ({ frames := 0, cells := 0, slots := 0, locals := 0 } : Room)) (fun a U => a = #[(.int (2 : Int32))] ∧ Z.Warmed39 U.vm ∧ U.heap = h0) (fun _ _ _ _ _ => True) (fun _ U o U' => ∃ v L, o = .returned v ∧ QV (.ref s_ENTRY_POINT) h0 n0 v U'.heap L ∧ FrameEnd U o U' L ({ frames := 0, cells := 0, slots := 0, locals := 0 } : Room).cells ({ frames := 0, cells := 0, slots := 0, locals := 0 } : Room).slots) := by
  obtain ⟨S_JUNCTION, S_FORK, ne_FORK_JUNCTION, S_JOIN, ne_JOIN_JUNCTION, E_JUNCTION, S_CHOICE, ne_CHOICE_FORK, ne_CHOICE_JOIN, E_CHOICE, S_ENTRY_POINT, ne_ENTRY_POINT_FORK, ne_ENTRY_POINT_JOIN, E_ENTRY_POINT, S_EXIT_POINT, ne_EXIT_POINT_FORK, ne_EXIT_POINT_JOIN, E_EXIT_POINT, S_SHALLOW_HISTORY, ne_FORK_SHALLOW_HISTORY, ne_JOIN_SHALLOW_HISTORY, E_SHALLOW_HISTORY, S_DEEP_HISTORY, ne_DEEP_HISTORY_FORK, ne_DEEP_HISTORY_JOIN, E_DEEP_HISTORY, E_FORK, ne_FORK_JOIN, E_JOIN, S_TERMINATE, ne_FORK_TERMINATE, ne_JOIN_TERMINATE, E_TERMINATE⟩ := id K
  refine MetFree.of_bodySF (plainFor_of_name pn0) hisR ?_
  intro p e s m args below meth c s₁ Bd hml0 hP hK
  obtain ⟨rfl, hZ, hh⟩ := hP
  have hx := Bd.exec
  have hby := Bd.bytes
  have hml : c.maxLocals = 1 := hml0
  have hown : s.vm.findClass "com/example/regionwise/regionwise/core/PseudostateKindSpansRegionsPinLaw" = some m.cls := findClass_of_methodNamed Bd.named
  have X0 : Stand p l e ({ frames := 0, cells := 0, slots := 0, locals := 0 } : Room) s m #[(.int (2 : Int32))] below meth c s₁ [] 0 0 := Stand.of_body Bd
  have e0 : s₁.heap = h0 := by rw [← hh, Bd.state]; rfl
  have N0 := Fr.nil n0
  have pre0 : ∀ t, Steps p.tables e below (s₁.setTop (mkF m 0 #[.val (.int (2 : Int32))] [])) t → Steps p.tables e below (s₁.setTop (entryFrame m #[(.int (2 : Int32))] 1)) t := fun t k => castTop (by first | (simp [entryFrame, mkF, argsToLocals, Value.category]; done) | rfl) k
  obtain ⟨T1, X1, e1, st1⟩ := getS X0 hx hZ hown (host := "") (hw _ (List.mem_of_getElem? (i := 19) rfl)) Via.refl e0 S_ENTRY_POINT (g := (mkF m 22 #[.val (.int (2 : Int32))] [])) rfl (hb hby d0_22)
  obtain ⟨fs, hr, hrun, hended, hW, hsame⟩ := X1.leave (v := some (.ref s_ENTRY_POINT)) (fun h => by rw [Bd.returns] at h; cases h)
  refine ⟨_, _, pre0 _ ?_, hrun, hended, _, _, rfl, ?_, ⟨_, rfl⟩, hW, hsame.mono (by decide) (by decide)⟩
  · show Steps p.tables e below (s₁.setTop (mkF m 0 #[.val (.int (2 : Int32))] [])) _
    refine XS.iloadN X0.here hx rfl (hb hby d0_0) rfl ?_
    show Steps p.tables e below (s₁.setTop (mkF m 1 #[.val (.int (2 : Int32))] [(.int (2 : Int32))])) _
    refine XS.ifYes X0.here hx rfl (pc0 := 1) (pc' := 8) rfl (hb hby d0_1) rfl (by decide +kernel) (by decide) (by decide) ?_
    show Steps p.tables e below (s₁.setTop (mkF m 8 #[.val (.int (2 : Int32))] [])) _
    refine XS.iloadN X0.here hx rfl (hb hby d0_8) rfl ?_
    show Steps p.tables e below (s₁.setTop (mkF m 9 #[.val (.int (2 : Int32))] [(.int (2 : Int32))])) _
    refine XS.iconst X0.here hx rfl (hb hby d0_9) ?_
    show Steps p.tables e below (s₁.setTop (mkF m 10 #[.val (.int (2 : Int32))] [(.int (1 : Int32)), (.int (2 : Int32))])) _
    refine XS.icmpYes X0.here hx rfl (pc0 := 10) (pc' := 17) rfl (hb hby d0_10) rfl (by decide +kernel) (by decide) (by decide) ?_
    show Steps p.tables e below (s₁.setTop (mkF m 17 #[.val (.int (2 : Int32))] [])) _
    refine XS.iloadN X0.here hx rfl (hb hby d0_17) rfl ?_
    show Steps p.tables e below (s₁.setTop (mkF m 18 #[.val (.int (2 : Int32))] [(.int (2 : Int32))])) _
    refine XS.iconst X0.here hx rfl (hb hby d0_18) ?_
    show Steps p.tables e below (s₁.setTop (mkF m 19 #[.val (.int (2 : Int32))] [(.int (2 : Int32)), (.int (2 : Int32))])) _
    refine XS.icmpNo X0.here hx rfl (hb hby d0_19) rfl (by decide +kernel) ?_
    show Steps p.tables e below (s₁.setTop (mkF m 22 #[.val (.int (2 : Int32))] [])) _
    refine st1 _ ?_
    show Steps p.tables e below (T1.setTop (mkF m 25 #[.val (.int (2 : Int32))] [(.ref s_ENTRY_POINT)])) _
    exact retOut X1 hx (i := .areturn) Bd.returns rfl (Or.inr (Or.inr (Or.inr (Or.inr ⟨rfl, rfl, rfl⟩)))) (hb hby d0_25) hr
  · exact ⟨rfl, N0, e1⟩
set_option maxRecDepth 65536 in
set_option maxHeartbeats 40000000 in
theorem r7 (l : Launch) (Z : State) (a0 : Array Value) (hw : ∀ d ∈ tables_1, d.before a0 Z = true) (ws : List Jvm.Cond) (h0 : Heap) (n0 : Nat) (s_JUNCTION : Addr) (s_FORK : Addr) (s_JOIN : Addr) (s_CHOICE : Addr) (s_ENTRY_POINT : Addr) (s_EXIT_POINT : Addr) (s_SHALLOW_HISTORY : Addr) (s_DEEP_HISTORY : Addr) (s_TERMINATE : Addr) (K : Ctx Z h0 s_JUNCTION s_FORK s_JOIN s_CHOICE s_ENTRY_POINT s_EXIT_POINT s_SHALLOW_HISTORY s_DEEP_HISTORY s_TERMINATE) :
    MetFree l (⟨"com/example/regionwise/regionwise/core/PseudostateKind", "spansRegions", "()Z"⟩ : MethodName) (head1 (Jvm.Cond.code (⟨"com/example/regionwise/regionwise/core/PseudostateKind", "spansRegions", "()Z"⟩ : MethodName) prog_62_method_8_code 1 (some .boolean) :: ws) ({ frames := 0, cells := 0, slots := 0, locals := 0 } : Room)) (fun a U => a = #[(.ref s_ENTRY_POINT)] ∧ Z.Warmed39 U.vm ∧ U.heap = h0) (fun _ _ _ _ _ => True) (fun _ U o U' => ∃ v L, o = .returned v ∧ QV (.int (0 : Int32)) h0 n0 v U'.heap L ∧ FrameEnd U o U' L ({ frames := 0, cells := 0, slots := 0, locals := 0 } : Room).cells ({ frames := 0, cells := 0, slots := 0, locals := 0 } : Room).slots) := by
  obtain ⟨S_JUNCTION, S_FORK, ne_FORK_JUNCTION, S_JOIN, ne_JOIN_JUNCTION, E_JUNCTION, S_CHOICE, ne_CHOICE_FORK, ne_CHOICE_JOIN, E_CHOICE, S_ENTRY_POINT, ne_ENTRY_POINT_FORK, ne_ENTRY_POINT_JOIN, E_ENTRY_POINT, S_EXIT_POINT, ne_EXIT_POINT_FORK, ne_EXIT_POINT_JOIN, E_EXIT_POINT, S_SHALLOW_HISTORY, ne_FORK_SHALLOW_HISTORY, ne_JOIN_SHALLOW_HISTORY, E_SHALLOW_HISTORY, S_DEEP_HISTORY, ne_DEEP_HISTORY_FORK, ne_DEEP_HISTORY_JOIN, E_DEEP_HISTORY, E_FORK, ne_FORK_JOIN, E_JOIN, S_TERMINATE, ne_FORK_TERMINATE, ne_JOIN_TERMINATE, E_TERMINATE⟩ := id K
  refine MetFree.of_bodySF (plainFor_of_name pn1) hisR ?_
  intro p e s m args below meth c s₁ Bd hml0 hP hK
  obtain ⟨rfl, hZ, hh⟩ := hP
  have hx := Bd.exec
  have hby := Bd.bytes
  have hml : c.maxLocals = 1 := hml0
  have hown : s.vm.findClass "com/example/regionwise/regionwise/core/PseudostateKind" = some m.cls := findClass_of_methodNamed Bd.named
  have X0 : Stand p l e ({ frames := 0, cells := 0, slots := 0, locals := 0 } : Room) s m #[(.ref s_ENTRY_POINT)] below meth c s₁ [] 0 0 := Stand.of_body Bd
  have e0 : s₁.heap = h0 := by rw [← hh, Bd.state]; rfl
  have N0 := Fr.nil n0
  have pre0 : ∀ t, Steps p.tables e below (s₁.setTop (mkF m 0 #[.val (.ref s_ENTRY_POINT)] [])) t → Steps p.tables e below (s₁.setTop (entryFrame m #[(.ref s_ENTRY_POINT)] 1)) t := fun t k => castTop (by first | (simp [entryFrame, mkF, argsToLocals, Value.category]; done) | rfl) k
  obtain ⟨T1, X1, e1, st1⟩ := getS X0 hx hZ hown (host := "") (hw _ (List.mem_of_getElem? (i := 13) rfl)) Via.refl e0 S_FORK (g := (mkF m 1 #[.val (.ref s_ENTRY_POINT)] [(.ref s_ENTRY_POINT)])) rfl (hb hby d1_1)
  obtain ⟨T2, X2, e2, st2⟩ := getS X1 hx hZ hown (host := "") (hw _ (List.mem_of_getElem? (i := 15) rfl)) Via.refl e1 S_JOIN (g := (mkF m 8 #[.val (.ref s_ENTRY_POINT)] [(.ref s_ENTRY_POINT)])) rfl (hb hby d1_8)
  obtain ⟨fs, hr, hrun, hended, hW, hsame⟩ := X2.leave (v := some (.int (0 : Int32))) (fun h => by rw [Bd.returns] at h; cases h)
  refine ⟨_, _, pre0 _ ?_, hrun, hended, _, _, rfl, ?_, ⟨_, rfl⟩, hW, hsame.mono (by decide) (by decide)⟩
  · show Steps p.tables e below (s₁.setTop (mkF m 0 #[.val (.ref s_ENTRY_POINT)] [])) _
    refine XS.aloadN X0.here hx rfl (hb hby d1_0) rfl rfl ?_
    show Steps p.tables e below (s₁.setTop (mkF m 1 #[.val (.ref s_ENTRY_POINT)] [(.ref s_ENTRY_POINT)])) _
    refine st1 _ ?_
    show Steps p.tables e below (T1.setTop (mkF m 4 #[.val (.ref s_ENTRY_POINT)] [(.ref s_FORK), (.ref s_ENTRY_POINT)])) _
    refine Jvm.RoadKit.acmp (g := (mkF m 4 #[.val (.ref s_ENTRY_POINT)] [(.ref s_FORK), (.ref s_ENTRY_POINT)])) X1 hx rfl rfl rfl (pc0 := 4) (pc' := 7) (same := false) rfl (hb hby d1_4) rfl (decide_eq_false fun q => ne_ENTRY_POINT_FORK (Value.ref.inj q)) (by decide) (by decide) ?_
    show Steps p.tables e below (T1.setTop (mkF m 7 #[.val (.ref s_ENTRY_POINT)] [])) _
    refine XS.aloadN X1.here hx rfl (hb hby d1_7) rfl rfl ?_
    show Steps p.tables e below (T1.setTop (mkF m 8 #[.val (.ref s_ENTRY_POINT)] [(.ref s_ENTRY_POINT)])) _
    refine st2 _ ?_
    show Steps p.tables e below (T2.setTop (mkF m 11 #[.val (.ref s_ENTRY_POINT)] [(.ref s_JOIN), (.ref s_ENTRY_POINT)])) _
    refine Jvm.RoadKit.acmp (g := (mkF m 11 #[.val (.ref s_ENTRY_POINT)] [(.ref s_JOIN), (.ref s_ENTRY_POINT)])) X2 hx rfl rfl rfl (pc0 := 11) (pc' := 18) (same := false) rfl (hb hby d1_11) rfl (decide_eq_false fun q => ne_ENTRY_POINT_JOIN (Value.ref.inj q)) (by decide) (by decide) ?_
    show Steps p.tables e below (T2.setTop (mkF m 18 #[.val (.ref s_ENTRY_POINT)] [])) _
    refine XS.iconst X2.here hx rfl (hb hby d1_18) ?_
    show Steps p.tables e below (T2.setTop (mkF m 19 #[.val (.ref s_ENTRY_POINT)] [(.int (0 : Int32))])) _
    exact retN X2 hx (t := .boolean) Bd.returns (by simp) (hb hby d1_19) hr
  · exact ⟨rfl, N0, e2⟩
set_option maxRecDepth 65536 in
set_option maxHeartbeats 40000000 in
theorem law_k2 (l : Launch) (Z : State) (a0 : Array Value) (hw : ∀ d ∈ tables_1, d.before a0 Z = true) (ws : List Jvm.Cond) (h0 : Heap) (n0 : Nat) (s_JUNCTION : Addr) (s_FORK : Addr) (s_JOIN : Addr) (s_CHOICE : Addr) (s_ENTRY_POINT : Addr) (s_EXIT_POINT : Addr) (s_SHALLOW_HISTORY : Addr) (s_DEEP_HISTORY : Addr) (s_TERMINATE : Addr) (K : Ctx Z h0 s_JUNCTION s_FORK s_JOIN s_CHOICE s_ENTRY_POINT s_EXIT_POINT s_SHALLOW_HISTORY s_DEEP_HISTORY s_TERMINATE) (p0 : Int32) (hp0 : ((p0 &&& (2147483647 : Int32)) % (9 : Int32)) = (2 : Int32)) :
    MetFree l x (head1 (Jvm.Cond.code x code maxLocals ret :: ws) room_1) (fun a U => a = #[(.int p0)] ∧ Z.Warmed39 U.vm ∧ U.heap = h0) (fun _ _ _ _ _ => True) (fun _ U o U' => ∃ v L, o = .returned v ∧ QV (.int (1 : Int32)) h0 n0 v U'.heap L ∧ FrameEnd U o U' L room_1.cells room_1.slots) := by
  obtain ⟨S_JUNCTION, S_FORK, ne_FORK_JUNCTION, S_JOIN, ne_JOIN_JUNCTION, E_JUNCTION, S_CHOICE, ne_CHOICE_FORK, ne_CHOICE_JOIN, E_CHOICE, S_ENTRY_POINT, ne_ENTRY_POINT_FORK, ne_ENTRY_POINT_JOIN, E_ENTRY_POINT, S_EXIT_POINT, ne_EXIT_POINT_FORK, ne_EXIT_POINT_JOIN, E_EXIT_POINT, S_SHALLOW_HISTORY, ne_FORK_SHALLOW_HISTORY, ne_JOIN_SHALLOW_HISTORY, E_SHALLOW_HISTORY, S_DEEP_HISTORY, ne_DEEP_HISTORY_FORK, ne_DEEP_HISTORY_JOIN, E_DEEP_HISTORY, E_FORK, ne_FORK_JOIN, E_JOIN, S_TERMINATE, ne_FORK_TERMINATE, ne_JOIN_TERMINATE, E_TERMINATE⟩ := id K
  refine MetFree.of_bodySF (plainFor_of_name pn2) hisR ?_
  intro p e s m args below meth c s₁ Bd hml0 hP hK
  obtain ⟨rfl, hZ, hh⟩ := hP
  have hx := Bd.exec
  have hby := Bd.bytes
  have hml : c.maxLocals = 4 := hml0
  have hown : s.vm.findClass "com/example/regionwise/regionwise/core/PseudostateKindSpansRegionsPinLaw" = some m.cls := findClass_of_methodNamed Bd.named
  have X0 : Stand p l e room_1 s m #[(.int p0)] below meth c s₁ [] 0 0 := Stand.of_body Bd
  have e0 : s₁.heap = h0 := by rw [← hh, Bd.state]; rfl
  have N0 := Fr.nil n0
  have pre0 : ∀ t, Steps p.tables e below (s₁.setTop (mkF m 0 #[.val (.int p0), .unset, .unset, .unset] [])) t → Steps p.tables e below (s₁.setTop (entryFrame m #[(.int p0)] maxLocals)) t := fun t k => castTop (by first | (simp [entryFrame, mkF, argsToLocals, Value.category, maxLocals]; done) | rfl) k
  obtain ⟨_, _, ⟨T1, L1, k1, n1⟩, -, X1, ⟨Lc1, hQ1, l1, y1, z1⟩, st1⟩ := Jvm.LawKit.callS X0 hx (y := (⟨"com/example/regionwise/regionwise/core/PseudostateKindSpansRegionsPinLaw", "pick", "(I)Lcom/example/regionwise/regionwise/core/PseudostateKind;"⟩ : MethodName)) hown (mvT hZ (hw _ (List.mem_of_getElem? (i := 1) rfl))) (mvT hZ (hw _ (List.mem_of_getElem? (i := 2) rfl))) (mvT hZ (hw _ (List.mem_of_getElem? (i := 3) rfl))) (mvT hZ (hw _ (List.mem_of_getElem? (i := 4) rfl))) (by decide) (backOf (W := 0) (r6 l Z a0 hw [] h0 n0 s_JUNCTION s_FORK s_JOIN s_CHOICE s_ENTRY_POINT s_EXIT_POINT s_SHALLOW_HISTORY s_DEEP_HISTORY s_TERMINATE K) hZ (hw _ (List.mem_of_getElem? (i := 4) rfl)) (hw _ (List.mem_of_getElem? (i := 3) rfl)) (by decide) (by decide)) (g := (mkF m 9 #[.val (.int p0), .val (.int (2 : Int32)), .unset, .unset] [(.int (2 : Int32))])) rfl (by rw [hml]; rfl) (argsL := [(.int (2 : Int32))]) (rest := []) (lenOf pd0 rfl) rfl (by show 2 * 0 + _ ≤ _; exact Nat.le_of_eq rfl) (hb hby at_9) (fun _ _ => ⟨rfl, e0, (by decide : 0 + 0 ≤ _), (by decide : 0 + 0 ≤ _)⟩)
  dsimp only [Pt.U, Pt.locs, Pt.cells, Pt.slots] at X1 l1 y1 z1 st1 hQ1
  subst l1 y1 z1
  obtain ⟨rfl, N1q, e1⟩ := hQ1
  have N1 := Fr.app N0 N1q
  obtain ⟨cq2, kq2, q2a, q2b, q2c⟩ := isOf hZ e1 E_ENTRY_POINT
  obtain ⟨_, _, ⟨T2, L2, k2, n2⟩, -, X2, ⟨Lc2, hQ2, l2, y2, z2⟩, st2⟩ := X1.virtualBack hx (y := (⟨"com/example/regionwise/regionwise/core/PseudostateKind", "spansRegions", "()Z"⟩ : MethodName)) (z := (⟨"com/example/regionwise/regionwise/core/PseudostateKind", "spansRegions", "()Z"⟩ : MethodName)) hown (mvT hZ (hw _ (List.mem_of_getElem? (i := 8) rfl))) (mvT hZ (hw _ (List.mem_of_getElem? (i := 9) rfl))) (notFace_of_selects (args := #[]) (mvT hZ (hw _ (List.mem_of_getElem? (i := 11) rfl)))) (mvT hZ (hw _ (List.mem_of_getElem? (i := 11) rfl))) (mvT hZ (hw _ (List.mem_of_getElem? (i := 10) rfl))) (by decide) (backOf (W := 0) (r7 l Z a0 hw [] h0 n0 s_JUNCTION s_FORK s_JOIN s_CHOICE s_ENTRY_POINT s_EXIT_POINT s_SHALLOW_HISTORY s_DEEP_HISTORY s_TERMINATE K) hZ (hw _ (List.mem_of_getElem? (i := 12) rfl)) (hw _ (List.mem_of_getElem? (i := 6) rfl)) (by decide) (by decide)) q2a q2c (g := (mkF m 32 #[.val (.int p0), .val (.int (2 : Int32)), .val (.ref s_ENTRY_POINT), .val (.int (0 : Int32))] [(.ref s_ENTRY_POINT)])) rfl (by rw [hml]; rfl) (Steps.refl _) (argsL := []) (rest := []) (lenOf pd1 rfl) rfl (by show 2 * 0 + _ ≤ _; exact Nat.le_of_eq rfl) (hb hby at_32) (fun _ _ => ⟨rfl, e1, (by decide : 0 + 0 ≤ _), (by decide : 0 + 0 ≤ _)⟩)
  dsimp only [Pt.U, Pt.locs, Pt.cells, Pt.slots] at X2 l2 y2 z2 st2 hQ2
  subst l2 y2 z2
  obtain ⟨rfl, N2q, e2⟩ := hQ2
  have N2 := Fr.app N1 N2q
  obtain ⟨fs, hr, hrun, hended, hW, hsame⟩ := X2.leave (v := some (.int (1 : Int32))) (fun h => by rw [Bd.returns] at h; cases h)
  refine ⟨_, _, pre0 _ ?_, hrun, hended, _, _, rfl, ?_, ⟨_, rfl⟩, hW, hsame.mono (by decide) (by decide)⟩
  · show Steps p.tables e below (s₁.setTop (mkF m 0 #[.val (.int p0), .unset, .unset, .unset] [])) _
    refine XS.iloadN X0.here hx rfl (hb hby at_0) rfl ?_
    show Steps p.tables e below (s₁.setTop (mkF m 1 #[.val (.int p0), .unset, .unset, .unset] [(.int p0)])) _
    refine X0.ldcInt hx hown (mvT hZ (hw _ (List.mem_of_getElem? (i := 0) rfl))) (g := (mkF m 1 #[.val (.int p0), .unset, .unset, .unset] [(.int p0)])) rfl (hb hby at_1) _ ?_
    show Steps p.tables e below (s₁.setTop (mkF m 3 #[.val (.int p0), .unset, .unset, .unset] [(.int (2147483647 : Int32)), (.int p0)])) _
    refine XS.iand X0.here hx rfl (hb hby at_3) rfl ?_
    show Steps p.tables e below (s₁.setTop (mkF m 4 #[.val (.int p0), .unset, .unset, .unset] [(.int (p0 &&& (2147483647 : Int32)))])) _
    refine XS.bipush X0.here hx rfl (hb hby at_4) ?_
    show Steps p.tables e below (s₁.setTop (mkF m 6 #[.val (.int p0), .unset, .unset, .unset] [(.int (9 : Int32)), (.int (p0 &&& (2147483647 : Int32)))])) _
    refine Jvm.RoadKit.iremM X0 hx rfl (hb hby at_6) rfl (by decide) ?_
    show Steps p.tables e below (s₁.setTop (mkF m 7 #[.val (.int p0), .unset, .unset, .unset] [(.int ((p0 &&& (2147483647 : Int32)) % (9 : Int32)))])) _
    rw [hp0]
    show Steps p.tables e below (s₁.setTop (mkF m 7 #[.val (.int p0), .unset, .unset, .unset] [(.int (2 : Int32))])) _
    refine XS.istoreN X0.here hx rfl (hb hby at_7) rfl (l' := #[.val (.int p0), .val (.int (2 : Int32)), .unset, .unset]) rfl ?_
    show Steps p.tables e below (s₁.setTop (mkF m 8 #[.val (.int p0), .val (.int (2 : Int32)), .unset, .unset] [])) _
    refine XS.iloadN X0.here hx rfl (hb hby at_8) rfl ?_
    show Steps p.tables e below (s₁.setTop (mkF m 9 #[.val (.int p0), .val (.int (2 : Int32)), .unset, .unset] [(.int (2 : Int32))])) _
    refine st1 _ ?_
    show Steps p.tables e below (T1.setTop (mkF m 12 #[.val (.int p0), .val (.int (2 : Int32)), .unset, .unset] [(.ref s_ENTRY_POINT)])) _
    refine XS.astoreN X1.here hx rfl (hb hby at_12) rfl rfl (l' := #[.val (.int p0), .val (.int (2 : Int32)), .val (.ref s_ENTRY_POINT), .unset]) rfl ?_
    show Steps p.tables e below (T1.setTop (mkF m 13 #[.val (.int p0), .val (.int (2 : Int32)), .val (.ref s_ENTRY_POINT), .unset] [])) _
    refine XS.iloadN X1.here hx rfl (hb hby at_13) rfl ?_
    show Steps p.tables e below (T1.setTop (mkF m 14 #[.val (.int p0), .val (.int (2 : Int32)), .val (.ref s_ENTRY_POINT), .unset] [(.int (2 : Int32))])) _
    refine XS.bipush X1.here hx rfl (hb hby at_14) ?_
    show Steps p.tables e below (T1.setTop (mkF m 16 #[.val (.int p0), .val (.int (2 : Int32)), .val (.ref s_ENTRY_POINT), .unset] [(.int (6 : Int32)), (.int (2 : Int32))])) _
    refine XS.icmpNo X1.here hx rfl (hb hby at_16) rfl (by decide +kernel) ?_
    show Steps p.tables e below (T1.setTop (mkF m 19 #[.val (.int p0), .val (.int (2 : Int32)), .val (.ref s_ENTRY_POINT), .unset] [])) _
    refine XS.iloadN X1.here hx rfl (hb hby at_19) rfl ?_
    show Steps p.tables e below (T1.setTop (mkF m 20 #[.val (.int p0), .val (.int (2 : Int32)), .val (.ref s_ENTRY_POINT), .unset] [(.int (2 : Int32))])) _
    refine XS.bipush X1.here hx rfl (hb hby at_20) ?_
    show Steps p.tables e below (T1.setTop (mkF m 22 #[.val (.int p0), .val (.int (2 : Int32)), .val (.ref s_ENTRY_POINT), .unset] [(.int (7 : Int32)), (.int (2 : Int32))])) _
    refine XS.icmpYes X1.here hx rfl (pc0 := 22) (pc' := 29) rfl (hb hby at_22) rfl (by decide +kernel) (by decide) (by decide) ?_
    show Steps p.tables e below (T1.setTop (mkF m 29 #[.val (.int p0), .val (.int (2 : Int32)), .val (.ref s_ENTRY_POINT), .unset] [])) _
    refine XS.iconst X1.here hx rfl (hb hby at_29) ?_
    show Steps p.tables e below (T1.setTop (mkF m 30 #[.val (.int p0), .val (.int (2 : Int32)), .val (.ref s_ENTRY_POINT), .unset] [(.int (0 : Int32))])) _
    refine XS.istoreN X1.here hx rfl (hb hby at_30) rfl (l' := #[.val (.int p0), .val (.int (2 : Int32)), .val (.ref s_ENTRY_POINT), .val (.int (0 : Int32))]) rfl ?_
    show Steps p.tables e below (T1.setTop (mkF m 31 #[.val (.int p0), .val (.int (2 : Int32)), .val (.ref s_ENTRY_POINT), .val (.int (0 : Int32))] [])) _
    refine XS.aloadN X1.here hx rfl (hb hby at_31) rfl rfl ?_
    show Steps p.tables e below (T1.setTop (mkF m 32 #[.val (.int p0), .val (.int (2 : Int32)), .val (.ref s_ENTRY_POINT), .val (.int (0 : Int32))] [(.ref s_ENTRY_POINT)])) _
    refine st2.trans ?_
    show Steps p.tables e below (T2.setTop (mkF m 35 #[.val (.int p0), .val (.int (2 : Int32)), .val (.ref s_ENTRY_POINT), .val (.int (0 : Int32))] [(.int (0 : Int32))])) _
    refine XS.iloadN X2.here hx rfl (hb hby at_35) rfl ?_
    show Steps p.tables e below (T2.setTop (mkF m 36 #[.val (.int p0), .val (.int (2 : Int32)), .val (.ref s_ENTRY_POINT), .val (.int (0 : Int32))] [(.int (0 : Int32)), (.int (0 : Int32))])) _
    refine XS.icmpNo X2.here hx rfl (hb hby at_36) rfl (by decide +kernel) ?_
    show Steps p.tables e below (T2.setTop (mkF m 39 #[.val (.int p0), .val (.int (2 : Int32)), .val (.ref s_ENTRY_POINT), .val (.int (0 : Int32))] [])) _
    refine XS.iconst X2.here hx rfl (hb hby at_39) ?_
    show Steps p.tables e below (T2.setTop (mkF m 40 #[.val (.int p0), .val (.int (2 : Int32)), .val (.ref s_ENTRY_POINT), .val (.int (0 : Int32))] [(.int (1 : Int32))])) _
    refine XS.goto X2.here hx rfl (pc0 := 40) (pc' := 44) rfl (hb hby at_40) (by decide) (by decide) ?_
    show Steps p.tables e below (T2.setTop (mkF m 44 #[.val (.int p0), .val (.int (2 : Int32)), .val (.ref s_ENTRY_POINT), .val (.int (0 : Int32))] [(.int (1 : Int32))])) _
    exact retN X2 hx (t := .boolean) Bd.returns (by simp) (hb hby at_44) hr
  · exact ⟨rfl, N2, e2⟩
set_option maxRecDepth 65536 in
set_option maxHeartbeats 40000000 in
theorem r9 (l : Launch) (Z : State) (a0 : Array Value) (hw : ∀ d ∈ tables_1, d.before a0 Z = true) (ws : List Jvm.Cond) (h0 : Heap) (n0 : Nat) (s_JUNCTION : Addr) (s_FORK : Addr) (s_JOIN : Addr) (s_CHOICE : Addr) (s_ENTRY_POINT : Addr) (s_EXIT_POINT : Addr) (s_SHALLOW_HISTORY : Addr) (s_DEEP_HISTORY : Addr) (s_TERMINATE : Addr) (K : Ctx Z h0 s_JUNCTION s_FORK s_JOIN s_CHOICE s_ENTRY_POINT s_EXIT_POINT s_SHALLOW_HISTORY s_DEEP_HISTORY s_TERMINATE) :
    MetFree l (⟨"com/example/regionwise/regionwise/core/PseudostateKindSpansRegionsPinLaw", "pick", "(I)Lcom/example/regionwise/regionwise/core/PseudostateKind;"⟩ : MethodName) (head1 (Jvm.Cond.code (⟨"com/example/regionwise/regionwise/core/PseudostateKindSpansRegionsPinLaw", "pick", "(I)Lcom/example/regionwise/regionwise/core/PseudostateKind;"⟩ : MethodName) method_2_code 1 (some (.object "com/example/regionwise/regionwise/core/PseudostateKind")) :: ws) ({ frames := 0, cells := 0, slots := 0, locals := 0 } : Room)) (fun a U => a = #[(.int (3 : Int32))] ∧ Z.Warmed39 U.vm ∧ U.heap = h0) (fun _ _ _ _ _ => True) (fun _ U o U' => ∃ v L, o = .returned v ∧ QV (.ref s_EXIT_POINT) h0 n0 v U'.heap L ∧ FrameEnd U o U' L ({ frames := 0, cells := 0, slots := 0, locals := 0 } : Room).cells ({ frames := 0, cells := 0, slots := 0, locals := 0 } : Room).slots) := by
  obtain ⟨S_JUNCTION, S_FORK, ne_FORK_JUNCTION, S_JOIN, ne_JOIN_JUNCTION, E_JUNCTION, S_CHOICE, ne_CHOICE_FORK, ne_CHOICE_JOIN, E_CHOICE, S_ENTRY_POINT, ne_ENTRY_POINT_FORK, ne_ENTRY_POINT_JOIN, E_ENTRY_POINT, S_EXIT_POINT, ne_EXIT_POINT_FORK, ne_EXIT_POINT_JOIN, E_EXIT_POINT, S_SHALLOW_HISTORY, ne_FORK_SHALLOW_HISTORY, ne_JOIN_SHALLOW_HISTORY, E_SHALLOW_HISTORY, S_DEEP_HISTORY, ne_DEEP_HISTORY_FORK, ne_DEEP_HISTORY_JOIN, E_DEEP_HISTORY, E_FORK, ne_FORK_JOIN, E_JOIN, S_TERMINATE, ne_FORK_TERMINATE, ne_JOIN_TERMINATE, E_TERMINATE⟩ := id K
  refine MetFree.of_bodySF (plainFor_of_name pn0) hisR ?_
  intro p e s m args below meth c s₁ Bd hml0 hP hK
  obtain ⟨rfl, hZ, hh⟩ := hP
  have hx := Bd.exec
  have hby := Bd.bytes
  have hml : c.maxLocals = 1 := hml0
  have hown : s.vm.findClass "com/example/regionwise/regionwise/core/PseudostateKindSpansRegionsPinLaw" = some m.cls := findClass_of_methodNamed Bd.named
  have X0 : Stand p l e ({ frames := 0, cells := 0, slots := 0, locals := 0 } : Room) s m #[(.int (3 : Int32))] below meth c s₁ [] 0 0 := Stand.of_body Bd
  have e0 : s₁.heap = h0 := by rw [← hh, Bd.state]; rfl
  have N0 := Fr.nil n0
  have pre0 : ∀ t, Steps p.tables e below (s₁.setTop (mkF m 0 #[.val (.int (3 : Int32))] [])) t → Steps p.tables e below (s₁.setTop (entryFrame m #[(.int (3 : Int32))] 1)) t := fun t k => castTop (by first | (simp [entryFrame, mkF, argsToLocals, Value.category]; done) | rfl) k
  obtain ⟨T1, X1, e1, st1⟩ := getS X0 hx hZ hown (host := "") (hw _ (List.mem_of_getElem? (i := 17) rfl)) Via.refl e0 S_EXIT_POINT (g := (mkF m 31 #[.val (.int (3 : Int32))] [])) rfl (hb hby d0_31)
  obtain ⟨fs, hr, hrun, hended, hW, hsame⟩ := X1.leave (v := some (.ref s_EXIT_POINT)) (fun h => by rw [Bd.returns] at h; cases h)
  refine ⟨_, _, pre0 _ ?_, hrun, hended, _, _, rfl, ?_, ⟨_, rfl⟩, hW, hsame.mono (by decide) (by decide)⟩
  · show Steps p.tables e below (s₁.setTop (mkF m 0 #[.val (.int (3 : Int32))] [])) _
    refine XS.iloadN X0.here hx rfl (hb hby d0_0) rfl ?_
    show Steps p.tables e below (s₁.setTop (mkF m 1 #[.val (.int (3 : Int32))] [(.int (3 : Int32))])) _
    refine XS.ifYes X0.here hx rfl (pc0 := 1) (pc' := 8) rfl (hb hby d0_1) rfl (by decide +kernel) (by decide) (by decide) ?_
    show Steps p.tables e below (s₁.setTop (mkF m 8 #[.val (.int (3 : Int32))] [])) _
    refine XS.iloadN X0.here hx rfl (hb hby d0_8) rfl ?_
    show Steps p.tables e below (s₁.setTop (mkF m 9 #[.val (.int (3 : Int32))] [(.int (3 : Int32))])) _
    refine XS.iconst X0.here hx rfl (hb hby d0_9) ?_
    show Steps p.tables e below (s₁.setTop (mkF m 10 #[.val (.int (3 : Int32))] [(.int (1 : Int32)), (.int (3 : Int32))])) _
    refine XS.icmpYes X0.here hx rfl (pc0 := 10) (pc' := 17) rfl (hb hby d0_10) rfl (by decide +kernel) (by decide) (by decide) ?_
    show Steps p.tables e below (s₁.setTop (mkF m 17 #[.val (.int (3 : Int32))] [])) _
    refine XS.iloadN X0.here hx rfl (hb hby d0_17) rfl ?_
    show Steps p.tables e below (s₁.setTop (mkF m 18 #[.val (.int (3 : Int32))] [(.int (3 : Int32))])) _
    refine XS.iconst X0.here hx rfl (hb hby d0_18) ?_
    show Steps p.tables e below (s₁.setTop (mkF m 19 #[.val (.int (3 : Int32))] [(.int (2 : Int32)), (.int (3 : Int32))])) _
    refine XS.icmpYes X0.here hx rfl (pc0 := 19) (pc' := 26) rfl (hb hby d0_19) rfl (by decide +kernel) (by decide) (by decide) ?_
    show Steps p.tables e below (s₁.setTop (mkF m 26 #[.val (.int (3 : Int32))] [])) _
    refine XS.iloadN X0.here hx rfl (hb hby d0_26) rfl ?_
    show Steps p.tables e below (s₁.setTop (mkF m 27 #[.val (.int (3 : Int32))] [(.int (3 : Int32))])) _
    refine XS.iconst X0.here hx rfl (hb hby d0_27) ?_
    show Steps p.tables e below (s₁.setTop (mkF m 28 #[.val (.int (3 : Int32))] [(.int (3 : Int32)), (.int (3 : Int32))])) _
    refine XS.icmpNo X0.here hx rfl (hb hby d0_28) rfl (by decide +kernel) ?_
    show Steps p.tables e below (s₁.setTop (mkF m 31 #[.val (.int (3 : Int32))] [])) _
    refine st1 _ ?_
    show Steps p.tables e below (T1.setTop (mkF m 34 #[.val (.int (3 : Int32))] [(.ref s_EXIT_POINT)])) _
    exact retOut X1 hx (i := .areturn) Bd.returns rfl (Or.inr (Or.inr (Or.inr (Or.inr ⟨rfl, rfl, rfl⟩)))) (hb hby d0_34) hr
  · exact ⟨rfl, N0, e1⟩
set_option maxRecDepth 65536 in
set_option maxHeartbeats 40000000 in
theorem r10 (l : Launch) (Z : State) (a0 : Array Value) (hw : ∀ d ∈ tables_1, d.before a0 Z = true) (ws : List Jvm.Cond) (h0 : Heap) (n0 : Nat) (s_JUNCTION : Addr) (s_FORK : Addr) (s_JOIN : Addr) (s_CHOICE : Addr) (s_ENTRY_POINT : Addr) (s_EXIT_POINT : Addr) (s_SHALLOW_HISTORY : Addr) (s_DEEP_HISTORY : Addr) (s_TERMINATE : Addr) (K : Ctx Z h0 s_JUNCTION s_FORK s_JOIN s_CHOICE s_ENTRY_POINT s_EXIT_POINT s_SHALLOW_HISTORY s_DEEP_HISTORY s_TERMINATE) :
    MetFree l (⟨"com/example/regionwise/regionwise/core/PseudostateKind", "spansRegions", "()Z"⟩ : MethodName) (head1 (Jvm.Cond.code (⟨"com/example/regionwise/regionwise/core/PseudostateKind", "spansRegions", "()Z"⟩ : MethodName) prog_62_method_8_code 1 (some .boolean) :: ws) ({ frames := 0, cells := 0, slots := 0, locals := 0 } : Room)) (fun a U => a = #[(.ref s_EXIT_POINT)] ∧ Z.Warmed39 U.vm ∧ U.heap = h0) (fun _ _ _ _ _ => True) (fun _ U o U' => ∃ v L, o = .returned v ∧ QV (.int (0 : Int32)) h0 n0 v U'.heap L ∧ FrameEnd U o U' L ({ frames := 0, cells := 0, slots := 0, locals := 0 } : Room).cells ({ frames := 0, cells := 0, slots := 0, locals := 0 } : Room).slots) := by
  obtain ⟨S_JUNCTION, S_FORK, ne_FORK_JUNCTION, S_JOIN, ne_JOIN_JUNCTION, E_JUNCTION, S_CHOICE, ne_CHOICE_FORK, ne_CHOICE_JOIN, E_CHOICE, S_ENTRY_POINT, ne_ENTRY_POINT_FORK, ne_ENTRY_POINT_JOIN, E_ENTRY_POINT, S_EXIT_POINT, ne_EXIT_POINT_FORK, ne_EXIT_POINT_JOIN, E_EXIT_POINT, S_SHALLOW_HISTORY, ne_FORK_SHALLOW_HISTORY, ne_JOIN_SHALLOW_HISTORY, E_SHALLOW_HISTORY, S_DEEP_HISTORY, ne_DEEP_HISTORY_FORK, ne_DEEP_HISTORY_JOIN, E_DEEP_HISTORY, E_FORK, ne_FORK_JOIN, E_JOIN, S_TERMINATE, ne_FORK_TERMINATE, ne_JOIN_TERMINATE, E_TERMINATE⟩ := id K
  refine MetFree.of_bodySF (plainFor_of_name pn1) hisR ?_
  intro p e s m args below meth c s₁ Bd hml0 hP hK
  obtain ⟨rfl, hZ, hh⟩ := hP
  have hx := Bd.exec
  have hby := Bd.bytes
  have hml : c.maxLocals = 1 := hml0
  have hown : s.vm.findClass "com/example/regionwise/regionwise/core/PseudostateKind" = some m.cls := findClass_of_methodNamed Bd.named
  have X0 : Stand p l e ({ frames := 0, cells := 0, slots := 0, locals := 0 } : Room) s m #[(.ref s_EXIT_POINT)] below meth c s₁ [] 0 0 := Stand.of_body Bd
  have e0 : s₁.heap = h0 := by rw [← hh, Bd.state]; rfl
  have N0 := Fr.nil n0
  have pre0 : ∀ t, Steps p.tables e below (s₁.setTop (mkF m 0 #[.val (.ref s_EXIT_POINT)] [])) t → Steps p.tables e below (s₁.setTop (entryFrame m #[(.ref s_EXIT_POINT)] 1)) t := fun t k => castTop (by first | (simp [entryFrame, mkF, argsToLocals, Value.category]; done) | rfl) k
  obtain ⟨T1, X1, e1, st1⟩ := getS X0 hx hZ hown (host := "") (hw _ (List.mem_of_getElem? (i := 13) rfl)) Via.refl e0 S_FORK (g := (mkF m 1 #[.val (.ref s_EXIT_POINT)] [(.ref s_EXIT_POINT)])) rfl (hb hby d1_1)
  obtain ⟨T2, X2, e2, st2⟩ := getS X1 hx hZ hown (host := "") (hw _ (List.mem_of_getElem? (i := 15) rfl)) Via.refl e1 S_JOIN (g := (mkF m 8 #[.val (.ref s_EXIT_POINT)] [(.ref s_EXIT_POINT)])) rfl (hb hby d1_8)
  obtain ⟨fs, hr, hrun, hended, hW, hsame⟩ := X2.leave (v := some (.int (0 : Int32))) (fun h => by rw [Bd.returns] at h; cases h)
  refine ⟨_, _, pre0 _ ?_, hrun, hended, _, _, rfl, ?_, ⟨_, rfl⟩, hW, hsame.mono (by decide) (by decide)⟩
  · show Steps p.tables e below (s₁.setTop (mkF m 0 #[.val (.ref s_EXIT_POINT)] [])) _
    refine XS.aloadN X0.here hx rfl (hb hby d1_0) rfl rfl ?_
    show Steps p.tables e below (s₁.setTop (mkF m 1 #[.val (.ref s_EXIT_POINT)] [(.ref s_EXIT_POINT)])) _
    refine st1 _ ?_
    show Steps p.tables e below (T1.setTop (mkF m 4 #[.val (.ref s_EXIT_POINT)] [(.ref s_FORK), (.ref s_EXIT_POINT)])) _
    refine Jvm.RoadKit.acmp (g := (mkF m 4 #[.val (.ref s_EXIT_POINT)] [(.ref s_FORK), (.ref s_EXIT_POINT)])) X1 hx rfl rfl rfl (pc0 := 4) (pc' := 7) (same := false) rfl (hb hby d1_4) rfl (decide_eq_false fun q => ne_EXIT_POINT_FORK (Value.ref.inj q)) (by decide) (by decide) ?_
    show Steps p.tables e below (T1.setTop (mkF m 7 #[.val (.ref s_EXIT_POINT)] [])) _
    refine XS.aloadN X1.here hx rfl (hb hby d1_7) rfl rfl ?_
    show Steps p.tables e below (T1.setTop (mkF m 8 #[.val (.ref s_EXIT_POINT)] [(.ref s_EXIT_POINT)])) _
    refine st2 _ ?_
    show Steps p.tables e below (T2.setTop (mkF m 11 #[.val (.ref s_EXIT_POINT)] [(.ref s_JOIN), (.ref s_EXIT_POINT)])) _
    refine Jvm.RoadKit.acmp (g := (mkF m 11 #[.val (.ref s_EXIT_POINT)] [(.ref s_JOIN), (.ref s_EXIT_POINT)])) X2 hx rfl rfl rfl (pc0 := 11) (pc' := 18) (same := false) rfl (hb hby d1_11) rfl (decide_eq_false fun q => ne_EXIT_POINT_JOIN (Value.ref.inj q)) (by decide) (by decide) ?_
    show Steps p.tables e below (T2.setTop (mkF m 18 #[.val (.ref s_EXIT_POINT)] [])) _
    refine XS.iconst X2.here hx rfl (hb hby d1_18) ?_
    show Steps p.tables e below (T2.setTop (mkF m 19 #[.val (.ref s_EXIT_POINT)] [(.int (0 : Int32))])) _
    exact retN X2 hx (t := .boolean) Bd.returns (by simp) (hb hby d1_19) hr
  · exact ⟨rfl, N0, e2⟩
set_option maxRecDepth 65536 in
set_option maxHeartbeats 40000000 in
theorem law_k3 (l : Launch) (Z : State) (a0 : Array Value) (hw : ∀ d ∈ tables_1, d.before a0 Z = true) (ws : List Jvm.Cond) (h0 : Heap) (n0 : Nat) (s_JUNCTION : Addr) (s_FORK : Addr) (s_JOIN : Addr) (s_CHOICE : Addr) (s_ENTRY_POINT : Addr) (s_EXIT_POINT : Addr) (s_SHALLOW_HISTORY : Addr) (s_DEEP_HISTORY : Addr) (s_TERMINATE : Addr) (K : Ctx Z h0 s_JUNCTION s_FORK s_JOIN s_CHOICE s_ENTRY_POINT s_EXIT_POINT s_SHALLOW_HISTORY s_DEEP_HISTORY s_TERMINATE) (p0 : Int32) (hp0 : ((p0 &&& (2147483647 : Int32)) % (9 : Int32)) = (3 : Int32)) :
    MetFree l x (head1 (Jvm.Cond.code x code maxLocals ret :: ws) room_1) (fun a U => a = #[(.int p0)] ∧ Z.Warmed39 U.vm ∧ U.heap = h0) (fun _ _ _ _ _ => True) (fun _ U o U' => ∃ v L, o = .returned v ∧ QV (.int (1 : Int32)) h0 n0 v U'.heap L ∧ FrameEnd U o U' L room_1.cells room_1.slots) := by
  obtain ⟨S_JUNCTION, S_FORK, ne_FORK_JUNCTION, S_JOIN, ne_JOIN_JUNCTION, E_JUNCTION, S_CHOICE, ne_CHOICE_FORK, ne_CHOICE_JOIN, E_CHOICE, S_ENTRY_POINT, ne_ENTRY_POINT_FORK, ne_ENTRY_POINT_JOIN, E_ENTRY_POINT, S_EXIT_POINT, ne_EXIT_POINT_FORK, ne_EXIT_POINT_JOIN, E_EXIT_POINT, S_SHALLOW_HISTORY, ne_FORK_SHALLOW_HISTORY, ne_JOIN_SHALLOW_HISTORY, E_SHALLOW_HISTORY, S_DEEP_HISTORY, ne_DEEP_HISTORY_FORK, ne_DEEP_HISTORY_JOIN, E_DEEP_HISTORY, E_FORK, ne_FORK_JOIN, E_JOIN, S_TERMINATE, ne_FORK_TERMINATE, ne_JOIN_TERMINATE, E_TERMINATE⟩ := id K
  refine MetFree.of_bodySF (plainFor_of_name pn2) hisR ?_
  intro p e s m args below meth c s₁ Bd hml0 hP hK
  obtain ⟨rfl, hZ, hh⟩ := hP
  have hx := Bd.exec
  have hby := Bd.bytes
  have hml : c.maxLocals = 4 := hml0
  have hown : s.vm.findClass "com/example/regionwise/regionwise/core/PseudostateKindSpansRegionsPinLaw" = some m.cls := findClass_of_methodNamed Bd.named
  have X0 : Stand p l e room_1 s m #[(.int p0)] below meth c s₁ [] 0 0 := Stand.of_body Bd
  have e0 : s₁.heap = h0 := by rw [← hh, Bd.state]; rfl
  have N0 := Fr.nil n0
  have pre0 : ∀ t, Steps p.tables e below (s₁.setTop (mkF m 0 #[.val (.int p0), .unset, .unset, .unset] [])) t → Steps p.tables e below (s₁.setTop (entryFrame m #[(.int p0)] maxLocals)) t := fun t k => castTop (by first | (simp [entryFrame, mkF, argsToLocals, Value.category, maxLocals]; done) | rfl) k
  obtain ⟨_, _, ⟨T1, L1, k1, n1⟩, -, X1, ⟨Lc1, hQ1, l1, y1, z1⟩, st1⟩ := Jvm.LawKit.callS X0 hx (y := (⟨"com/example/regionwise/regionwise/core/PseudostateKindSpansRegionsPinLaw", "pick", "(I)Lcom/example/regionwise/regionwise/core/PseudostateKind;"⟩ : MethodName)) hown (mvT hZ (hw _ (List.mem_of_getElem? (i := 1) rfl))) (mvT hZ (hw _ (List.mem_of_getElem? (i := 2) rfl))) (mvT hZ (hw _ (List.mem_of_getElem? (i := 3) rfl))) (mvT hZ (hw _ (List.mem_of_getElem? (i := 4) rfl))) (by decide) (backOf (W := 0) (r9 l Z a0 hw [] h0 n0 s_JUNCTION s_FORK s_JOIN s_CHOICE s_ENTRY_POINT s_EXIT_POINT s_SHALLOW_HISTORY s_DEEP_HISTORY s_TERMINATE K) hZ (hw _ (List.mem_of_getElem? (i := 4) rfl)) (hw _ (List.mem_of_getElem? (i := 3) rfl)) (by decide) (by decide)) (g := (mkF m 9 #[.val (.int p0), .val (.int (3 : Int32)), .unset, .unset] [(.int (3 : Int32))])) rfl (by rw [hml]; rfl) (argsL := [(.int (3 : Int32))]) (rest := []) (lenOf pd0 rfl) rfl (by show 2 * 0 + _ ≤ _; exact Nat.le_of_eq rfl) (hb hby at_9) (fun _ _ => ⟨rfl, e0, (by decide : 0 + 0 ≤ _), (by decide : 0 + 0 ≤ _)⟩)
  dsimp only [Pt.U, Pt.locs, Pt.cells, Pt.slots] at X1 l1 y1 z1 st1 hQ1
  subst l1 y1 z1
  obtain ⟨rfl, N1q, e1⟩ := hQ1
  have N1 := Fr.app N0 N1q
  obtain ⟨cq2, kq2, q2a, q2b, q2c⟩ := isOf hZ e1 E_EXIT_POINT
  obtain ⟨_, _, ⟨T2, L2, k2, n2⟩, -, X2, ⟨Lc2, hQ2, l2, y2, z2⟩, st2⟩ := X1.virtualBack hx (y := (⟨"com/example/regionwise/regionwise/core/PseudostateKind", "spansRegions", "()Z"⟩ : MethodName)) (z := (⟨"com/example/regionwise/regionwise/core/PseudostateKind", "spansRegions", "()Z"⟩ : MethodName)) hown (mvT hZ (hw _ (List.mem_of_getElem? (i := 8) rfl))) (mvT hZ (hw _ (List.mem_of_getElem? (i := 9) rfl))) (notFace_of_selects (args := #[]) (mvT hZ (hw _ (List.mem_of_getElem? (i := 11) rfl)))) (mvT hZ (hw _ (List.mem_of_getElem? (i := 11) rfl))) (mvT hZ (hw _ (List.mem_of_getElem? (i := 10) rfl))) (by decide) (backOf (W := 0) (r10 l Z a0 hw [] h0 n0 s_JUNCTION s_FORK s_JOIN s_CHOICE s_ENTRY_POINT s_EXIT_POINT s_SHALLOW_HISTORY s_DEEP_HISTORY s_TERMINATE K) hZ (hw _ (List.mem_of_getElem? (i := 12) rfl)) (hw _ (List.mem_of_getElem? (i := 6) rfl)) (by decide) (by decide)) q2a q2c (g := (mkF m 32 #[.val (.int p0), .val (.int (3 : Int32)), .val (.ref s_EXIT_POINT), .val (.int (0 : Int32))] [(.ref s_EXIT_POINT)])) rfl (by rw [hml]; rfl) (Steps.refl _) (argsL := []) (rest := []) (lenOf pd1 rfl) rfl (by show 2 * 0 + _ ≤ _; exact Nat.le_of_eq rfl) (hb hby at_32) (fun _ _ => ⟨rfl, e1, (by decide : 0 + 0 ≤ _), (by decide : 0 + 0 ≤ _)⟩)
  dsimp only [Pt.U, Pt.locs, Pt.cells, Pt.slots] at X2 l2 y2 z2 st2 hQ2
  subst l2 y2 z2
  obtain ⟨rfl, N2q, e2⟩ := hQ2
  have N2 := Fr.app N1 N2q
  obtain ⟨fs, hr, hrun, hended, hW, hsame⟩ := X2.leave (v := some (.int (1 : Int32))) (fun h => by rw [Bd.returns] at h; cases h)
  refine ⟨_, _, pre0 _ ?_, hrun, hended, _, _, rfl, ?_, ⟨_, rfl⟩, hW, hsame.mono (by decide) (by decide)⟩
  · show Steps p.tables e below (s₁.setTop (mkF m 0 #[.val (.int p0), .unset, .unset, .unset] [])) _
    refine XS.iloadN X0.here hx rfl (hb hby at_0) rfl ?_
    show Steps p.tables e below (s₁.setTop (mkF m 1 #[.val (.int p0), .unset, .unset, .unset] [(.int p0)])) _
    refine X0.ldcInt hx hown (mvT hZ (hw _ (List.mem_of_getElem? (i := 0) rfl))) (g := (mkF m 1 #[.val (.int p0), .unset, .unset, .unset] [(.int p0)])) rfl (hb hby at_1) _ ?_
    show Steps p.tables e below (s₁.setTop (mkF m 3 #[.val (.int p0), .unset, .unset, .unset] [(.int (2147483647 : Int32)), (.int p0)])) _
    refine XS.iand X0.here hx rfl (hb hby at_3) rfl ?_
    show Steps p.tables e below (s₁.setTop (mkF m 4 #[.val (.int p0), .unset, .unset, .unset] [(.int (p0 &&& (2147483647 : Int32)))])) _
    refine XS.bipush X0.here hx rfl (hb hby at_4) ?_
    show Steps p.tables e below (s₁.setTop (mkF m 6 #[.val (.int p0), .unset, .unset, .unset] [(.int (9 : Int32)), (.int (p0 &&& (2147483647 : Int32)))])) _
    refine Jvm.RoadKit.iremM X0 hx rfl (hb hby at_6) rfl (by decide) ?_
    show Steps p.tables e below (s₁.setTop (mkF m 7 #[.val (.int p0), .unset, .unset, .unset] [(.int ((p0 &&& (2147483647 : Int32)) % (9 : Int32)))])) _
    rw [hp0]
    show Steps p.tables e below (s₁.setTop (mkF m 7 #[.val (.int p0), .unset, .unset, .unset] [(.int (3 : Int32))])) _
    refine XS.istoreN X0.here hx rfl (hb hby at_7) rfl (l' := #[.val (.int p0), .val (.int (3 : Int32)), .unset, .unset]) rfl ?_
    show Steps p.tables e below (s₁.setTop (mkF m 8 #[.val (.int p0), .val (.int (3 : Int32)), .unset, .unset] [])) _
    refine XS.iloadN X0.here hx rfl (hb hby at_8) rfl ?_
    show Steps p.tables e below (s₁.setTop (mkF m 9 #[.val (.int p0), .val (.int (3 : Int32)), .unset, .unset] [(.int (3 : Int32))])) _
    refine st1 _ ?_
    show Steps p.tables e below (T1.setTop (mkF m 12 #[.val (.int p0), .val (.int (3 : Int32)), .unset, .unset] [(.ref s_EXIT_POINT)])) _
    refine XS.astoreN X1.here hx rfl (hb hby at_12) rfl rfl (l' := #[.val (.int p0), .val (.int (3 : Int32)), .val (.ref s_EXIT_POINT), .unset]) rfl ?_
    show Steps p.tables e below (T1.setTop (mkF m 13 #[.val (.int p0), .val (.int (3 : Int32)), .val (.ref s_EXIT_POINT), .unset] [])) _
    refine XS.iloadN X1.here hx rfl (hb hby at_13) rfl ?_
    show Steps p.tables e below (T1.setTop (mkF m 14 #[.val (.int p0), .val (.int (3 : Int32)), .val (.ref s_EXIT_POINT), .unset] [(.int (3 : Int32))])) _
    refine XS.bipush X1.here hx rfl (hb hby at_14) ?_
    show Steps p.tables e below (T1.setTop (mkF m 16 #[.val (.int p0), .val (.int (3 : Int32)), .val (.ref s_EXIT_POINT), .unset] [(.int (6 : Int32)), (.int (3 : Int32))])) _
    refine XS.icmpNo X1.here hx rfl (hb hby at_16) rfl (by decide +kernel) ?_
    show Steps p.tables e below (T1.setTop (mkF m 19 #[.val (.int p0), .val (.int (3 : Int32)), .val (.ref s_EXIT_POINT), .unset] [])) _
    refine XS.iloadN X1.here hx rfl (hb hby at_19) rfl ?_
    show Steps p.tables e below (T1.setTop (mkF m 20 #[.val (.int p0), .val (.int (3 : Int32)), .val (.ref s_EXIT_POINT), .unset] [(.int (3 : Int32))])) _
    refine XS.bipush X1.here hx rfl (hb hby at_20) ?_
    show Steps p.tables e below (T1.setTop (mkF m 22 #[.val (.int p0), .val (.int (3 : Int32)), .val (.ref s_EXIT_POINT), .unset] [(.int (7 : Int32)), (.int (3 : Int32))])) _
    refine XS.icmpYes X1.here hx rfl (pc0 := 22) (pc' := 29) rfl (hb hby at_22) rfl (by decide +kernel) (by decide) (by decide) ?_
    show Steps p.tables e below (T1.setTop (mkF m 29 #[.val (.int p0), .val (.int (3 : Int32)), .val (.ref s_EXIT_POINT), .unset] [])) _
    refine XS.iconst X1.here hx rfl (hb hby at_29) ?_
    show Steps p.tables e below (T1.setTop (mkF m 30 #[.val (.int p0), .val (.int (3 : Int32)), .val (.ref s_EXIT_POINT), .unset] [(.int (0 : Int32))])) _
    refine XS.istoreN X1.here hx rfl (hb hby at_30) rfl (l' := #[.val (.int p0), .val (.int (3 : Int32)), .val (.ref s_EXIT_POINT), .val (.int (0 : Int32))]) rfl ?_
    show Steps p.tables e below (T1.setTop (mkF m 31 #[.val (.int p0), .val (.int (3 : Int32)), .val (.ref s_EXIT_POINT), .val (.int (0 : Int32))] [])) _
    refine XS.aloadN X1.here hx rfl (hb hby at_31) rfl rfl ?_
    show Steps p.tables e below (T1.setTop (mkF m 32 #[.val (.int p0), .val (.int (3 : Int32)), .val (.ref s_EXIT_POINT), .val (.int (0 : Int32))] [(.ref s_EXIT_POINT)])) _
    refine st2.trans ?_
    show Steps p.tables e below (T2.setTop (mkF m 35 #[.val (.int p0), .val (.int (3 : Int32)), .val (.ref s_EXIT_POINT), .val (.int (0 : Int32))] [(.int (0 : Int32))])) _
    refine XS.iloadN X2.here hx rfl (hb hby at_35) rfl ?_
    show Steps p.tables e below (T2.setTop (mkF m 36 #[.val (.int p0), .val (.int (3 : Int32)), .val (.ref s_EXIT_POINT), .val (.int (0 : Int32))] [(.int (0 : Int32)), (.int (0 : Int32))])) _
    refine XS.icmpNo X2.here hx rfl (hb hby at_36) rfl (by decide +kernel) ?_
    show Steps p.tables e below (T2.setTop (mkF m 39 #[.val (.int p0), .val (.int (3 : Int32)), .val (.ref s_EXIT_POINT), .val (.int (0 : Int32))] [])) _
    refine XS.iconst X2.here hx rfl (hb hby at_39) ?_
    show Steps p.tables e below (T2.setTop (mkF m 40 #[.val (.int p0), .val (.int (3 : Int32)), .val (.ref s_EXIT_POINT), .val (.int (0 : Int32))] [(.int (1 : Int32))])) _
    refine XS.goto X2.here hx rfl (pc0 := 40) (pc' := 44) rfl (hb hby at_40) (by decide) (by decide) ?_
    show Steps p.tables e below (T2.setTop (mkF m 44 #[.val (.int p0), .val (.int (3 : Int32)), .val (.ref s_EXIT_POINT), .val (.int (0 : Int32))] [(.int (1 : Int32))])) _
    exact retN X2 hx (t := .boolean) Bd.returns (by simp) (hb hby at_44) hr
  · exact ⟨rfl, N2, e2⟩
set_option maxRecDepth 65536 in
set_option maxHeartbeats 40000000 in
theorem r12 (l : Launch) (Z : State) (a0 : Array Value) (hw : ∀ d ∈ tables_1, d.before a0 Z = true) (ws : List Jvm.Cond) (h0 : Heap) (n0 : Nat) (s_JUNCTION : Addr) (s_FORK : Addr) (s_JOIN : Addr) (s_CHOICE : Addr) (s_ENTRY_POINT : Addr) (s_EXIT_POINT : Addr) (s_SHALLOW_HISTORY : Addr) (s_DEEP_HISTORY : Addr) (s_TERMINATE : Addr) (K : Ctx Z h0 s_JUNCTION s_FORK s_JOIN s_CHOICE s_ENTRY_POINT s_EXIT_POINT s_SHALLOW_HISTORY s_DEEP_HISTORY s_TERMINATE) :
    MetFree l (⟨"com/example/regionwise/regionwise/core/PseudostateKindSpansRegionsPinLaw", "pick", "(I)Lcom/example/regionwise/regionwise/core/PseudostateKind;"⟩ : MethodName) (head1 (Jvm.Cond.code (⟨"com/example/regionwise/regionwise/core/PseudostateKindSpansRegionsPinLaw", "pick", "(I)Lcom/example/regionwise/regionwise/core/PseudostateKind;"⟩ : MethodName) method_2_code 1 (some (.object "com/example/regionwise/regionwise/core/PseudostateKind")) :: ws) ({ frames := 0, cells := 0, slots := 0, locals := 0 } : Room)) (fun a U => a = #[(.int (4 : Int32))] ∧ Z.Warmed39 U.vm ∧ U.heap = h0) (fun _ _ _ _ _ => True) (fun _ U o U' => ∃ v L, o = .returned v ∧ QV (.ref s_SHALLOW_HISTORY) h0 n0 v U'.heap L ∧ FrameEnd U o U' L ({ frames := 0, cells := 0, slots := 0, locals := 0 } : Room).cells ({ frames := 0, cells := 0, slots := 0, locals := 0 } : Room).slots) := by
  obtain ⟨S_JUNCTION, S_FORK, ne_FORK_JUNCTION, S_JOIN, ne_JOIN_JUNCTION, E_JUNCTION, S_CHOICE, ne_CHOICE_FORK, ne_CHOICE_JOIN, E_CHOICE, S_ENTRY_POINT, ne_ENTRY_POINT_FORK, ne_ENTRY_POINT_JOIN, E_ENTRY_POINT, S_EXIT_POINT, ne_EXIT_POINT_FORK, ne_EXIT_POINT_JOIN, E_EXIT_POINT, S_SHALLOW_HISTORY, ne_FORK_SHALLOW_HISTORY, ne_JOIN_SHALLOW_HISTORY, E_SHALLOW_HISTORY, S_DEEP_HISTORY, ne_DEEP_HISTORY_FORK, ne_DEEP_HISTORY_JOIN, E_DEEP_HISTORY, E_FORK, ne_FORK_JOIN, E_JOIN, S_TERMINATE, ne_FORK_TERMINATE, ne_JOIN_TERMINATE, E_TERMINATE⟩ := id K
  refine MetFree.of_bodySF (plainFor_of_name pn0) hisR ?_
  intro p e s m args below meth c s₁ Bd hml0 hP hK
  obtain ⟨rfl, hZ, hh⟩ := hP
  have hx := Bd.exec
  have hby := Bd.bytes
  have hml : c.maxLocals = 1 := hml0
  have hown : s.vm.findClass "com/example/regionwise/regionwise/core/PseudostateKindSpansRegionsPinLaw" = some m.cls := findClass_of_methodNamed Bd.named
  have X0 : Stand p l e ({ frames := 0, cells := 0, slots := 0, locals := 0 } : Room) s m #[(.int (4 : Int32))] below meth c s₁ [] 0 0 := Stand.of_body Bd
  have e0 : s₁.heap = h0 := by rw [← hh, Bd.state]; rfl
  have N0 := Fr.nil n0
  have pre0 : ∀ t, Steps p.tables e below (s₁.setTop (mkF m 0 #[.val (.int (4 : Int32))] [])) t → Steps p.tables e below (s₁.setTop (entryFrame m #[(.int (4 : Int32))] 1)) t := fun t k => castTop (by first | (simp [entryFrame, mkF, argsToLocals, Value.category]; done) | rfl) k
  obtain ⟨T1, X1, e1, st1⟩ := getS X0 hx hZ hown (host := "") (hw _ (List.mem_of_getElem? (i := 24) rfl)) Via.refl e0 S_SHALLOW_HISTORY (g := (mkF m 40 #[.val (.int (4 : Int32))] [])) rfl (hb hby d0_40)
  obtain ⟨fs, hr, hrun, hended, hW, hsame⟩ := X1.leave (v := some (.ref s_SHALLOW_HISTORY)) (fun h => by rw [Bd.returns] at h; cases h)
  refine ⟨_, _, pre0 _ ?_, hrun, hended, _, _, rfl, ?_, ⟨_, rfl⟩, hW, hsame.mono (by decide) (by decide)⟩
  · show Steps p.tables e below (s₁.setTop (mkF m 0 #[.val (.int (4 : Int32))] [])) _
    refine XS.iloadN X0.here hx rfl (hb hby d0_0) rfl ?_
    show Steps p.tables e below (s₁.setTop (mkF m 1 #[.val (.int (4 : Int32))] [(.int (4 : Int32))])) _
    refine XS.ifYes X0.here hx rfl (pc0 := 1) (pc' := 8) rfl (hb hby d0_1) rfl (by decide +kernel) (by decide) (by decide) ?_
    show Steps p.tables e below (s₁.setTop (mkF m 8 #[.val (.int (4 : Int32))] [])) _
    refine XS.iloadN X0.here hx rfl (hb hby d0_8) rfl ?_
    show Steps p.tables e below (s₁.setTop (mkF m 9 #[.val (.int (4 : Int32))] [(.int (4 : Int32))])) _
    refine XS.iconst X0.here hx rfl (hb hby d0_9) ?_
    show Steps p.tables e below (s₁.setTop (mkF m 10 #[.val (.int (4 : Int32))] [(.int (1 : Int32)), (.int (4 : Int32))])) _
    refine XS.icmpYes X0.here hx rfl (pc0 := 10) (pc' := 17) rfl (hb hby d0_10) rfl (by decide +kernel) (by decide) (by decide) ?_
    show Steps p.tables e below (s₁.setTop (mkF m 17 #[.val (.int (4 : Int32))] [])) _
    refine XS.iloadN X0.here hx rfl (hb hby d0_17) rfl ?_
    show Steps p.tables e below (s₁.setTop (mkF m 18 #[.val (.int (4 : Int32))] [(.int (4 : Int32))])) _
    refine XS.iconst X0.here hx rfl (hb hby d0_18) ?_
    show Steps p.tables e below (s₁.setTop (mkF m 19 #[.val (.int (4 : Int32))] [(.int (2 : Int32)), (.int (4 : Int32))])) _
    refine XS.icmpYes X0.here hx rfl (pc0 := 19) (pc' := 26) rfl (hb hby d0_19) rfl (by decide +kernel) (by decide) (by decide) ?_
    show Steps p.tables e below (s₁.setTop (mkF m 26 #[.val (.int (4 : Int32))] [])) _
    refine XS.iloadN X0.here hx rfl (hb hby d0_26) rfl ?_
    show Steps p.tables e below (s₁.setTop (mkF m 27 #[.val (.int (4 : Int32))] [(.int (4 : Int32))])) _
    refine XS.iconst X0.here hx rfl (hb hby d0_27) ?_
    show Steps p.tables e below (s₁.setTop (mkF m 28 #[.val (.int (4 : Int32))] [(.int (3 : Int32)), (.int (4 : Int32))])) _
    refine XS.icmpYes X0.here hx rfl (pc0 := 28) (pc' := 35) rfl (hb hby d0_28) rfl (by decide +kernel) (by decide) (by decide) ?_
    show Steps p.tables e below (s₁.setTop (mkF m 35 #[.val (.int (4 : Int32))] [])) _
    refine XS.iloadN X0.here hx rfl (hb hby d0_35) rfl ?_
    show Steps p.tables e below (s₁.setTop (mkF m 36 #[.val (.int (4 : Int32))] [(.int (4 : Int32))])) _
    refine XS.iconst X0.here hx rfl (hb hby d0_36) ?_
    show Steps p.tables e below (s₁.setTop (mkF m 37 #[.val (.int (4 : Int32))] [(.int (4 : Int32)), (.int (4 : Int32))])) _
    refine XS.icmpNo X0.here hx rfl (hb hby d0_37) rfl (by decide +kernel) ?_
    show Steps p.tables e below (s₁.setTop (mkF m 40 #[.val (.int (4 : Int32))] [])) _
    refine st1 _ ?_
    show Steps p.tables e below (T1.setTop (mkF m 43 #[.val (.int (4 : Int32))] [(.ref s_SHALLOW_HISTORY)])) _
    exact retOut X1 hx (i := .areturn) Bd.returns rfl (Or.inr (Or.inr (Or.inr (Or.inr ⟨rfl, rfl, rfl⟩)))) (hb hby d0_43) hr
  · exact ⟨rfl, N0, e1⟩
set_option maxRecDepth 65536 in
set_option maxHeartbeats 40000000 in
theorem r13 (l : Launch) (Z : State) (a0 : Array Value) (hw : ∀ d ∈ tables_1, d.before a0 Z = true) (ws : List Jvm.Cond) (h0 : Heap) (n0 : Nat) (s_JUNCTION : Addr) (s_FORK : Addr) (s_JOIN : Addr) (s_CHOICE : Addr) (s_ENTRY_POINT : Addr) (s_EXIT_POINT : Addr) (s_SHALLOW_HISTORY : Addr) (s_DEEP_HISTORY : Addr) (s_TERMINATE : Addr) (K : Ctx Z h0 s_JUNCTION s_FORK s_JOIN s_CHOICE s_ENTRY_POINT s_EXIT_POINT s_SHALLOW_HISTORY s_DEEP_HISTORY s_TERMINATE) :
    MetFree l (⟨"com/example/regionwise/regionwise/core/PseudostateKind", "spansRegions", "()Z"⟩ : MethodName) (head1 (Jvm.Cond.code (⟨"com/example/regionwise/regionwise/core/PseudostateKind", "spansRegions", "()Z"⟩ : MethodName) prog_62_method_8_code 1 (some .boolean) :: ws) ({ frames := 0, cells := 0, slots := 0, locals := 0 } : Room)) (fun a U => a = #[(.ref s_SHALLOW_HISTORY)] ∧ Z.Warmed39 U.vm ∧ U.heap = h0) (fun _ _ _ _ _ => True) (fun _ U o U' => ∃ v L, o = .returned v ∧ QV (.int (0 : Int32)) h0 n0 v U'.heap L ∧ FrameEnd U o U' L ({ frames := 0, cells := 0, slots := 0, locals := 0 } : Room).cells ({ frames := 0, cells := 0, slots := 0, locals := 0 } : Room).slots) := by
  obtain ⟨S_JUNCTION, S_FORK, ne_FORK_JUNCTION, S_JOIN, ne_JOIN_JUNCTION, E_JUNCTION, S_CHOICE, ne_CHOICE_FORK, ne_CHOICE_JOIN, E_CHOICE, S_ENTRY_POINT, ne_ENTRY_POINT_FORK, ne_ENTRY_POINT_JOIN, E_ENTRY_POINT, S_EXIT_POINT, ne_EXIT_POINT_FORK, ne_EXIT_POINT_JOIN, E_EXIT_POINT, S_SHALLOW_HISTORY, ne_FORK_SHALLOW_HISTORY, ne_JOIN_SHALLOW_HISTORY, E_SHALLOW_HISTORY, S_DEEP_HISTORY, ne_DEEP_HISTORY_FORK, ne_DEEP_HISTORY_JOIN, E_DEEP_HISTORY, E_FORK, ne_FORK_JOIN, E_JOIN, S_TERMINATE, ne_FORK_TERMINATE, ne_JOIN_TERMINATE, E_TERMINATE⟩ := id K
  refine MetFree.of_bodySF (plainFor_of_name pn1) hisR ?_
  intro p e s m args below meth c s₁ Bd hml0 hP hK
  obtain ⟨rfl, hZ, hh⟩ := hP
  have hx := Bd.exec
  have hby := Bd.bytes
  have hml : c.maxLocals = 1 := hml0
  have hown : s.vm.findClass "com/example/regionwise/regionwise/core/PseudostateKind" = some m.cls := findClass_of_methodNamed Bd.named
  have X0 : Stand p l e ({ frames := 0, cells := 0, slots := 0, locals := 0 } : Room) s m #[(.ref s_SHALLOW_HISTORY)] below meth c s₁ [] 0 0 := Stand.of_body Bd
  have e0 : s₁.heap = h0 := by rw [← hh, Bd.state]; rfl
  have N0 := Fr.nil n0
  have pre0 : ∀ t, Steps p.tables e below (s₁.setTop (mkF m 0 #[.val (.ref s_SHALLOW_HISTORY)] [])) t → Steps p.tables e below (s₁.setTop (entryFrame m #[(.ref s_SHALLOW_HISTORY)] 1)) t := fun t k => castTop (by first | (simp [entryFrame, mkF, argsToLocals, Value.category]; done) | rfl) k
  obtain ⟨T1, X1, e1, st1⟩ := getS X0 hx hZ hown (host := "") (hw _ (List.mem_of_getElem? (i := 13) rfl)) Via.refl e0 S_FORK (g := (mkF m 1 #[.val (.ref s_SHALLOW_HISTORY)] [(.ref s_SHALLOW_HISTORY)])) rfl (hb hby d1_1)
  obtain ⟨T2, X2, e2, st2⟩ := getS X1 hx hZ hown (host := "") (hw _ (List.mem_of_getElem? (i := 15) rfl)) Via.refl e1 S_JOIN (g := (mkF m 8 #[.val (.ref s_SHALLOW_HISTORY)] [(.ref s_SHALLOW_HISTORY)])) rfl (hb hby d1_8)
  obtain ⟨fs, hr, hrun, hended, hW, hsame⟩ := X2.leave (v := some (.int (0 : Int32))) (fun h => by rw [Bd.returns] at h; cases h)
  refine ⟨_, _, pre0 _ ?_, hrun, hended, _, _, rfl, ?_, ⟨_, rfl⟩, hW, hsame.mono (by decide) (by decide)⟩
  · show Steps p.tables e below (s₁.setTop (mkF m 0 #[.val (.ref s_SHALLOW_HISTORY)] [])) _
    refine XS.aloadN X0.here hx rfl (hb hby d1_0) rfl rfl ?_
    show Steps p.tables e below (s₁.setTop (mkF m 1 #[.val (.ref s_SHALLOW_HISTORY)] [(.ref s_SHALLOW_HISTORY)])) _
    refine st1 _ ?_
    show Steps p.tables e below (T1.setTop (mkF m 4 #[.val (.ref s_SHALLOW_HISTORY)] [(.ref s_FORK), (.ref s_SHALLOW_HISTORY)])) _
    refine Jvm.RoadKit.acmp (g := (mkF m 4 #[.val (.ref s_SHALLOW_HISTORY)] [(.ref s_FORK), (.ref s_SHALLOW_HISTORY)])) X1 hx rfl rfl rfl (pc0 := 4) (pc' := 7) (same := false) rfl (hb hby d1_4) rfl (decide_eq_false fun q => (Ne.symm ne_FORK_SHALLOW_HISTORY) (Value.ref.inj q)) (by decide) (by decide) ?_
    show Steps p.tables e below (T1.setTop (mkF m 7 #[.val (.ref s_SHALLOW_HISTORY)] [])) _
    refine XS.aloadN X1.here hx rfl (hb hby d1_7) rfl rfl ?_
    show Steps p.tables e below (T1.setTop (mkF m 8 #[.val (.ref s_SHALLOW_HISTORY)] [(.ref s_SHALLOW_HISTORY)])) _
    refine st2 _ ?_
    show Steps p.tables e below (T2.setTop (mkF m 11 #[.val (.ref s_SHALLOW_HISTORY)] [(.ref s_JOIN), (.ref s_SHALLOW_HISTORY)])) _
    refine Jvm.RoadKit.acmp (g := (mkF m 11 #[.val (.ref s_SHALLOW_HISTORY)] [(.ref s_JOIN), (.ref s_SHALLOW_HISTORY)])) X2 hx rfl rfl rfl (pc0 := 11) (pc' := 18) (same := false) rfl (hb hby d1_11) rfl (decide_eq_false fun q => (Ne.symm ne_JOIN_SHALLOW_HISTORY) (Value.ref.inj q)) (by decide) (by decide) ?_
    show Steps p.tables e below (T2.setTop (mkF m 18 #[.val (.ref s_SHALLOW_HISTORY)] [])) _
    refine XS.iconst X2.here hx rfl (hb hby d1_18) ?_
    show Steps p.tables e below (T2.setTop (mkF m 19 #[.val (.ref s_SHALLOW_HISTORY)] [(.int (0 : Int32))])) _
    exact retN X2 hx (t := .boolean) Bd.returns (by simp) (hb hby d1_19) hr
  · exact ⟨rfl, N0, e2⟩
set_option maxRecDepth 65536 in
set_option maxHeartbeats 40000000 in
theorem law_k4 (l : Launch) (Z : State) (a0 : Array Value) (hw : ∀ d ∈ tables_1, d.before a0 Z = true) (ws : List Jvm.Cond) (h0 : Heap) (n0 : Nat) (s_JUNCTION : Addr) (s_FORK : Addr) (s_JOIN : Addr) (s_CHOICE : Addr) (s_ENTRY_POINT : Addr) (s_EXIT_POINT : Addr) (s_SHALLOW_HISTORY : Addr) (s_DEEP_HISTORY : Addr) (s_TERMINATE : Addr) (K : Ctx Z h0 s_JUNCTION s_FORK s_JOIN s_CHOICE s_ENTRY_POINT s_EXIT_POINT s_SHALLOW_HISTORY s_DEEP_HISTORY s_TERMINATE) (p0 : Int32) (hp0 : ((p0 &&& (2147483647 : Int32)) % (9 : Int32)) = (4 : Int32)) :
    MetFree l x (head1 (Jvm.Cond.code x code maxLocals ret :: ws) room_1) (fun a U => a = #[(.int p0)] ∧ Z.Warmed39 U.vm ∧ U.heap = h0) (fun _ _ _ _ _ => True) (fun _ U o U' => ∃ v L, o = .returned v ∧ QV (.int (1 : Int32)) h0 n0 v U'.heap L ∧ FrameEnd U o U' L room_1.cells room_1.slots) := by
  obtain ⟨S_JUNCTION, S_FORK, ne_FORK_JUNCTION, S_JOIN, ne_JOIN_JUNCTION, E_JUNCTION, S_CHOICE, ne_CHOICE_FORK, ne_CHOICE_JOIN, E_CHOICE, S_ENTRY_POINT, ne_ENTRY_POINT_FORK, ne_ENTRY_POINT_JOIN, E_ENTRY_POINT, S_EXIT_POINT, ne_EXIT_POINT_FORK, ne_EXIT_POINT_JOIN, E_EXIT_POINT, S_SHALLOW_HISTORY, ne_FORK_SHALLOW_HISTORY, ne_JOIN_SHALLOW_HISTORY, E_SHALLOW_HISTORY, S_DEEP_HISTORY, ne_DEEP_HISTORY_FORK, ne_DEEP_HISTORY_JOIN, E_DEEP_HISTORY, E_FORK, ne_FORK_JOIN, E_JOIN, S_TERMINATE, ne_FORK_TERMINATE, ne_JOIN_TERMINATE, E_TERMINATE⟩ := id K
  refine MetFree.of_bodySF (plainFor_of_name pn2) hisR ?_
  intro p e s m args below meth c s₁ Bd hml0 hP hK
  obtain ⟨rfl, hZ, hh⟩ := hP
  have hx := Bd.exec
  have hby := Bd.bytes
  have hml : c.maxLocals = 4 := hml0
  have hown : s.vm.findClass "com/example/regionwise/regionwise/core/PseudostateKindSpansRegionsPinLaw" = some m.cls := findClass_of_methodNamed Bd.named
  have X0 : Stand p l e room_1 s m #[(.int p0)] below meth c s₁ [] 0 0 := Stand.of_body Bd
  have e0 : s₁.heap = h0 := by rw [← hh, Bd.state]; rfl
  have N0 := Fr.nil n0
  have pre0 : ∀ t, Steps p.tables e below (s₁.setTop (mkF m 0 #[.val (.int p0), .unset, .unset, .unset] [])) t → Steps p.tables e below (s₁.setTop (entryFrame m #[(.int p0)] maxLocals)) t := fun t k => castTop (by first | (simp [entryFrame, mkF, argsToLocals, Value.category, maxLocals]; done) | rfl) k
  obtain ⟨_, _, ⟨T1, L1, k1, n1⟩, -, X1, ⟨Lc1, hQ1, l1, y1, z1⟩, st1⟩ := Jvm.LawKit.callS X0 hx (y := (⟨"com/example/regionwise/regionwise/core/PseudostateKindSpansRegionsPinLaw", "pick", "(I)Lcom/example/regionwise/regionwise/core/PseudostateKind;"⟩ : MethodName)) hown (mvT hZ (hw _ (List.mem_of_getElem? (i := 1) rfl))) (mvT hZ (hw _ (List.mem_of_getElem? (i := 2) rfl))) (mvT hZ (hw _ (List.mem_of_getElem? (i := 3) rfl))) (mvT hZ (hw _ (List.mem_of_getElem? (i := 4) rfl))) (by decide) (backOf (W := 0) (r12 l Z a0 hw [] h0 n0 s_JUNCTION s_FORK s_JOIN s_CHOICE s_ENTRY_POINT s_EXIT_POINT s_SHALLOW_HISTORY s_DEEP_HISTORY s_TERMINATE K) hZ (hw _ (List.mem_of_getElem? (i := 4) rfl)) (hw _ (List.mem_of_getElem? (i := 3) rfl)) (by decide) (by decide)) (g := (mkF m 9 #[.val (.int p0), .val (.int (4 : Int32)), .unset, .unset] [(.int (4 : Int32))])) rfl (by rw [hml]; rfl) (argsL := [(.int (4 : Int32))]) (rest := []) (lenOf pd0 rfl) rfl (by show 2 * 0 + _ ≤ _; exact Nat.le_of_eq rfl) (hb hby at_9) (fun _ _ => ⟨rfl, e0, (by decide : 0 + 0 ≤ _), (by decide : 0 + 0 ≤ _)⟩)
  dsimp only [Pt.U, Pt.locs, Pt.cells, Pt.slots] at X1 l1 y1 z1 st1 hQ1
  subst l1 y1 z1
  obtain ⟨rfl, N1q, e1⟩ := hQ1
  have N1 := Fr.app N0 N1q
  obtain ⟨cq2, kq2, q2a, q2b, q2c⟩ := isOf hZ e1 E_SHALLOW_HISTORY
  obtain ⟨_, _, ⟨T2, L2, k2, n2⟩, -, X2, ⟨Lc2, hQ2, l2, y2, z2⟩, st2⟩ := X1.virtualBack hx (y := (⟨"com/example/regionwise/regionwise/core/PseudostateKind", "spansRegions", "()Z"⟩ : MethodName)) (z := (⟨"com/example/regionwise/regionwise/core/PseudostateKind", "spansRegions", "()Z"⟩ : MethodName)) hown (mvT hZ (hw _ (List.mem_of_getElem? (i := 8) rfl))) (mvT hZ (hw _ (List.mem_of_getElem? (i := 9) rfl))) (notFace_of_selects (args := #[]) (mvT hZ (hw _ (List.mem_of_getElem? (i := 11) rfl)))) (mvT hZ (hw _ (List.mem_of_getElem? (i := 11) rfl))) (mvT hZ (hw _ (List.mem_of_getElem? (i := 10) rfl))) (by decide) (backOf (W := 0) (r13 l Z a0 hw [] h0 n0 s_JUNCTION s_FORK s_JOIN s_CHOICE s_ENTRY_POINT s_EXIT_POINT s_SHALLOW_HISTORY s_DEEP_HISTORY s_TERMINATE K) hZ (hw _ (List.mem_of_getElem? (i := 12) rfl)) (hw _ (List.mem_of_getElem? (i := 6) rfl)) (by decide) (by decide)) q2a q2c (g := (mkF m 32 #[.val (.int p0), .val (.int (4 : Int32)), .val (.ref s_SHALLOW_HISTORY), .val (.int (0 : Int32))] [(.ref s_SHALLOW_HISTORY)])) rfl (by rw [hml]; rfl) (Steps.refl _) (argsL := []) (rest := []) (lenOf pd1 rfl) rfl (by show 2 * 0 + _ ≤ _; exact Nat.le_of_eq rfl) (hb hby at_32) (fun _ _ => ⟨rfl, e1, (by decide : 0 + 0 ≤ _), (by decide : 0 + 0 ≤ _)⟩)
  dsimp only [Pt.U, Pt.locs, Pt.cells, Pt.slots] at X2 l2 y2 z2 st2 hQ2
  subst l2 y2 z2
  obtain ⟨rfl, N2q, e2⟩ := hQ2
  have N2 := Fr.app N1 N2q
  obtain ⟨fs, hr, hrun, hended, hW, hsame⟩ := X2.leave (v := some (.int (1 : Int32))) (fun h => by rw [Bd.returns] at h; cases h)
  refine ⟨_, _, pre0 _ ?_, hrun, hended, _, _, rfl, ?_, ⟨_, rfl⟩, hW, hsame.mono (by decide) (by decide)⟩
  · show Steps p.tables e below (s₁.setTop (mkF m 0 #[.val (.int p0), .unset, .unset, .unset] [])) _
    refine XS.iloadN X0.here hx rfl (hb hby at_0) rfl ?_
    show Steps p.tables e below (s₁.setTop (mkF m 1 #[.val (.int p0), .unset, .unset, .unset] [(.int p0)])) _
    refine X0.ldcInt hx hown (mvT hZ (hw _ (List.mem_of_getElem? (i := 0) rfl))) (g := (mkF m 1 #[.val (.int p0), .unset, .unset, .unset] [(.int p0)])) rfl (hb hby at_1) _ ?_
    show Steps p.tables e below (s₁.setTop (mkF m 3 #[.val (.int p0), .unset, .unset, .unset] [(.int (2147483647 : Int32)), (.int p0)])) _
    refine XS.iand X0.here hx rfl (hb hby at_3) rfl ?_
    show Steps p.tables e below (s₁.setTop (mkF m 4 #[.val (.int p0), .unset, .unset, .unset] [(.int (p0 &&& (2147483647 : Int32)))])) _
    refine XS.bipush X0.here hx rfl (hb hby at_4) ?_
    show Steps p.tables e below (s₁.setTop (mkF m 6 #[.val (.int p0), .unset, .unset, .unset] [(.int (9 : Int32)), (.int (p0 &&& (2147483647 : Int32)))])) _
    refine Jvm.RoadKit.iremM X0 hx rfl (hb hby at_6) rfl (by decide) ?_
    show Steps p.tables e below (s₁.setTop (mkF m 7 #[.val (.int p0), .unset, .unset, .unset] [(.int ((p0 &&& (2147483647 : Int32)) % (9 : Int32)))])) _
    rw [hp0]
    show Steps p.tables e below (s₁.setTop (mkF m 7 #[.val (.int p0), .unset, .unset, .unset] [(.int (4 : Int32))])) _
    refine XS.istoreN X0.here hx rfl (hb hby at_7) rfl (l' := #[.val (.int p0), .val (.int (4 : Int32)), .unset, .unset]) rfl ?_
    show Steps p.tables e below (s₁.setTop (mkF m 8 #[.val (.int p0), .val (.int (4 : Int32)), .unset, .unset] [])) _
    refine XS.iloadN X0.here hx rfl (hb hby at_8) rfl ?_
    show Steps p.tables e below (s₁.setTop (mkF m 9 #[.val (.int p0), .val (.int (4 : Int32)), .unset, .unset] [(.int (4 : Int32))])) _
    refine st1 _ ?_
    show Steps p.tables e below (T1.setTop (mkF m 12 #[.val (.int p0), .val (.int (4 : Int32)), .unset, .unset] [(.ref s_SHALLOW_HISTORY)])) _
    refine XS.astoreN X1.here hx rfl (hb hby at_12) rfl rfl (l' := #[.val (.int p0), .val (.int (4 : Int32)), .val (.ref s_SHALLOW_HISTORY), .unset]) rfl ?_
    show Steps p.tables e below (T1.setTop (mkF m 13 #[.val (.int p0), .val (.int (4 : Int32)), .val (.ref s_SHALLOW_HISTORY), .unset] [])) _
    refine XS.iloadN X1.here hx rfl (hb hby at_13) rfl ?_
    show Steps p.tables e below (T1.setTop (mkF m 14 #[.val (.int p0), .val (.int (4 : Int32)), .val (.ref s_SHALLOW_HISTORY), .unset] [(.int (4 : Int32))])) _
    refine XS.bipush X1.here hx rfl (hb hby at_14) ?_
    show Steps p.tables e below (T1.setTop (mkF m 16 #[.val (.int p0), .val (.int (4 : Int32)), .val (.ref s_SHALLOW_HISTORY), .unset] [(.int (6 : Int32)), (.int (4 : Int32))])) _
    refine XS.icmpNo X1.here hx rfl (hb hby at_16) rfl (by decide +kernel) ?_
    show Steps p.tables e below (T1.setTop (mkF m 19 #[.val (.int p0), .val (.int (4 : Int32)), .val (.ref s_SHALLOW_HISTORY), .unset] [])) _
    refine XS.iloadN X1.here hx rfl (hb hby at_19) rfl ?_
    show Steps p.tables e below (T1.setTop (mkF m 20 #[.val (.int p0), .val (.int (4 : Int32)), .val (.ref s_SHALLOW_HISTORY), .unset] [(.int (4 : Int32))])) _
    refine XS.bipush X1.here hx rfl (hb hby at_20) ?_
    show Steps p.tables e below (T1.setTop (mkF m 22 #[.val (.int p0), .val (.int (4 : Int32)), .val (.ref s_SHALLOW_HISTORY), .unset] [(.int (7 : Int32)), (.int (4 : Int32))])) _
    refine XS.icmpYes X1.here hx rfl (pc0 := 22) (pc' := 29) rfl (hb hby at_22) rfl (by decide +kernel) (by decide) (by decide) ?_
    show Steps p.tables e below (T1.setTop (mkF m 29 #[.val (.int p0), .val (.int (4 : Int32)), .val (.ref s_SHALLOW_HISTORY), .unset] [])) _
    refine XS.iconst X1.here hx rfl (hb hby at_29) ?_
    show Steps p.tables e below (T1.setTop (mkF m 30 #[.val (.int p0), .val (.int (4 : Int32)), .val (.ref s_SHALLOW_HISTORY), .unset] [(.int (0 : Int32))])) _
    refine XS.istoreN X1.here hx rfl (hb hby at_30) rfl (l' := #[.val (.int p0), .val (.int (4 : Int32)), .val (.ref s_SHALLOW_HISTORY), .val (.int (0 : Int32))]) rfl ?_
    show Steps p.tables e below (T1.setTop (mkF m 31 #[.val (.int p0), .val (.int (4 : Int32)), .val (.ref s_SHALLOW_HISTORY), .val (.int (0 : Int32))] [])) _
    refine XS.aloadN X1.here hx rfl (hb hby at_31) rfl rfl ?_
    show Steps p.tables e below (T1.setTop (mkF m 32 #[.val (.int p0), .val (.int (4 : Int32)), .val (.ref s_SHALLOW_HISTORY), .val (.int (0 : Int32))] [(.ref s_SHALLOW_HISTORY)])) _
    refine st2.trans ?_
    show Steps p.tables e below (T2.setTop (mkF m 35 #[.val (.int p0), .val (.int (4 : Int32)), .val (.ref s_SHALLOW_HISTORY), .val (.int (0 : Int32))] [(.int (0 : Int32))])) _
    refine XS.iloadN X2.here hx rfl (hb hby at_35) rfl ?_
    show Steps p.tables e below (T2.setTop (mkF m 36 #[.val (.int p0), .val (.int (4 : Int32)), .val (.ref s_SHALLOW_HISTORY), .val (.int (0 : Int32))] [(.int (0 : Int32)), (.int (0 : Int32))])) _
    refine XS.icmpNo X2.here hx rfl (hb hby at_36) rfl (by decide +kernel) ?_
    show Steps p.tables e below (T2.setTop (mkF m 39 #[.val (.int p0), .val (.int (4 : Int32)), .val (.ref s_SHALLOW_HISTORY), .val (.int (0 : Int32))] [])) _
    refine XS.iconst X2.here hx rfl (hb hby at_39) ?_
    show Steps p.tables e below (T2.setTop (mkF m 40 #[.val (.int p0), .val (.int (4 : Int32)), .val (.ref s_SHALLOW_HISTORY), .val (.int (0 : Int32))] [(.int (1 : Int32))])) _
    refine XS.goto X2.here hx rfl (pc0 := 40) (pc' := 44) rfl (hb hby at_40) (by decide) (by decide) ?_
    show Steps p.tables e below (T2.setTop (mkF m 44 #[.val (.int p0), .val (.int (4 : Int32)), .val (.ref s_SHALLOW_HISTORY), .val (.int (0 : Int32))] [(.int (1 : Int32))])) _
    exact retN X2 hx (t := .boolean) Bd.returns (by simp) (hb hby at_44) hr
  · exact ⟨rfl, N2, e2⟩
set_option maxRecDepth 65536 in
set_option maxHeartbeats 40000000 in
theorem r15 (l : Launch) (Z : State) (a0 : Array Value) (hw : ∀ d ∈ tables_1, d.before a0 Z = true) (ws : List Jvm.Cond) (h0 : Heap) (n0 : Nat) (s_JUNCTION : Addr) (s_FORK : Addr) (s_JOIN : Addr) (s_CHOICE : Addr) (s_ENTRY_POINT : Addr) (s_EXIT_POINT : Addr) (s_SHALLOW_HISTORY : Addr) (s_DEEP_HISTORY : Addr) (s_TERMINATE : Addr) (K : Ctx Z h0 s_JUNCTION s_FORK s_JOIN s_CHOICE s_ENTRY_POINT s_EXIT_POINT s_SHALLOW_HISTORY s_DEEP_HISTORY s_TERMINATE) :
    MetFree l (⟨"com/example/regionwise/regionwise/core/PseudostateKindSpansRegionsPinLaw", "pick", "(I)Lcom/example/regionwise/regionwise/core/PseudostateKind;"⟩ : MethodName) (head1 (Jvm.Cond.code (⟨"com/example/regionwise/regionwise/core/PseudostateKindSpansRegionsPinLaw", "pick", "(I)Lcom/example/regionwise/regionwise/core/PseudostateKind;"⟩ : MethodName) method_2_code 1 (some (.object "com/example/regionwise/regionwise/core/PseudostateKind")) :: ws) ({ frames := 0, cells := 0, slots := 0, locals := 0 } : Room)) (fun a U => a = #[(.int (5 : Int32))] ∧ Z.Warmed39 U.vm ∧ U.heap = h0) (fun _ _ _ _ _ => True) (fun _ U o U' => ∃ v L, o = .returned v ∧ QV (.ref s_DEEP_HISTORY) h0 n0 v U'.heap L ∧ FrameEnd U o U' L ({ frames := 0, cells := 0, slots := 0, locals := 0 } : Room).cells ({ frames := 0, cells := 0, slots := 0, locals := 0 } : Room).slots) := by
  obtain ⟨S_JUNCTION, S_FORK, ne_FORK_JUNCTION, S_JOIN, ne_JOIN_JUNCTION, E_JUNCTION, S_CHOICE, ne_CHOICE_FORK, ne_CHOICE_JOIN, E_CHOICE, S_ENTRY_POINT, ne_ENTRY_POINT_FORK, ne_ENTRY_POINT_JOIN, E_ENTRY_POINT, S_EXIT_POINT, ne_EXIT_POINT_FORK, ne_EXIT_POINT_JOIN, E_EXIT_POINT, S_SHALLOW_HISTORY, ne_FORK_SHALLOW_HISTORY, ne_JOIN_SHALLOW_HISTORY, E_SHALLOW_HISTORY, S_DEEP_HISTORY, ne_DEEP_HISTORY_FORK, ne_DEEP_HISTORY_JOIN, E_DEEP_HISTORY, E_FORK, ne_FORK_JOIN, E_JOIN, S_TERMINATE, ne_FORK_TERMINATE, ne_JOIN_TERMINATE, E_TERMINATE⟩ := id K
  refine MetFree.of_bodySF (plainFor_of_name pn0) hisR ?_
  intro p e s m args below meth c s₁ Bd hml0 hP hK
  obtain ⟨rfl, hZ, hh⟩ := hP
  have hx := Bd.exec
  have hby := Bd.bytes
  have hml : c.maxLocals = 1 := hml0
  have hown : s.vm.findClass "com/example/regionwise/regionwise/core/PseudostateKindSpansRegionsPinLaw" = some m.cls := findClass_of_methodNamed Bd.named
  have X0 : Stand p l e ({ frames := 0, cells := 0, slots := 0, locals := 0 } : Room) s m #[(.int (5 : Int32))] below meth c s₁ [] 0 0 := Stand.of_body Bd
  have e0 : s₁.heap = h0 := by rw [← hh, Bd.state]; rfl
  have N0 := Fr.nil n0
  have pre0 : ∀ t, Steps p.tables e below (s₁.setTop (mkF m 0 #[.val (.int (5 : Int32))] [])) t → Steps p.tables e below (s₁.setTop (entryFrame m #[(.int (5 : Int32))] 1)) t := fun t k => castTop (by first | (simp [entryFrame, mkF, argsToLocals, Value.category]; done) | rfl) k
  obtain ⟨T1, X1, e1, st1⟩ := getS X0 hx hZ hown (host := "") (hw _ (List.mem_of_getElem? (i := 29) rfl)) Via.refl e0 S_DEEP_HISTORY (g := (mkF m 49 #[.val (.int (5 : Int32))] [])) rfl (hb hby d0_49)
  obtain ⟨fs, hr, hrun, hended, hW, hsame⟩ := X1.leave (v := some (.ref s_DEEP_HISTORY)) (fun h => by rw [Bd.returns] at h; cases h)
  refine ⟨_, _, pre0 _ ?_, hrun, hended, _, _, rfl, ?_, ⟨_, rfl⟩, hW, hsame.mono (by decide) (by decide)⟩
  · show Steps p.tables e below (s₁.setTop (mkF m 0 #[.val (.int (5 : Int32))] [])) _
    refine XS.iloadN X0.here hx rfl (hb hby d0_0) rfl ?_
    show Steps p.tables e below (s₁.setTop (mkF m 1 #[.val (.int (5 : Int32))] [(.int (5 : Int32))])) _
    refine XS.ifYes X0.here hx rfl (pc0 := 1) (pc' := 8) rfl (hb hby d0_1) rfl (by decide +kernel) (by decide) (by decide) ?_
    show Steps p.tables e below (s₁.setTop (mkF m 8 #[.val (.int (5 : Int32))] [])) _
    refine XS.iloadN X0.here hx rfl (hb hby d0_8) rfl ?_
    show Steps p.tables e below (s₁.setTop (mkF m 9 #[.val (.int (5 : Int32))] [(.int (5 : Int32))])) _
    refine XS.iconst X0.here hx rfl (hb hby d0_9) ?_
    show Steps p.tables e below (s₁.setTop (mkF m 10 #[.val (.int (5 : Int32))] [(.int (1 : Int32)), (.int (5 : Int32))])) _
    refine XS.icmpYes X0.here hx rfl (pc0 := 10) (pc' := 17) rfl (hb hby d0_10) rfl (by decide +kernel) (by decide) (by decide) ?_
    show Steps p.tables e below (s₁.setTop (mkF m 17 #[.val (.int (5 : Int32))] [])) _
    refine XS.iloadN X0.here hx rfl (hb hby d0_17) rfl ?_
    show Steps p.tables e below (s₁.setTop (mkF m 18 #[.val (.int (5 : Int32))] [(.int (5 : Int32))])) _
    refine XS.iconst X0.here hx rfl (hb hby d0_18) ?_
    show Steps p.tables e below (s₁.setTop (mkF m 19 #[.val (.int (5 : Int32))] [(.int (2 : Int32)), (.int (5 : Int32))])) _
    refine XS.icmpYes X0.here hx rfl (pc0 := 19) (pc' := 26) rfl (hb hby d0_19) rfl (by decide +kernel) (by decide) (by decide) ?_
    show Steps p.tables e below (s₁.setTop (mkF m 26 #[.val (.int (5 : Int32))] [])) _
    refine XS.iloadN X0.here hx rfl (hb hby d0_26) rfl ?_
    show Steps p.tables e below (s₁.setTop (mkF m 27 #[.val (.int (5 : Int32))] [(.int (5 : Int32))])) _
    refine XS.iconst X0.here hx rfl (hb hby d0_27) ?_
    show Steps p.tables e below (s₁.setTop (mkF m 28 #[.val (.int (5 : Int32))] [(.int (3 : Int32)), (.int (5 : Int32))])) _
    refine XS.icmpYes X0.here hx rfl (pc0 := 28) (pc' := 35) rfl (hb hby d0_28) rfl (by decide +kernel) (by decide) (by decide) ?_
    show Steps p.tables e below (s₁.setTop (mkF m 35 #[.val (.int (5 : Int32))] [])) _
    refine XS.iloadN X0.here hx rfl (hb hby d0_35) rfl ?_
    show Steps p.tables e below (s₁.setTop (mkF m 36 #[.val (.int (5 : Int32))] [(.int (5 : Int32))])) _
    refine XS.iconst X0.here hx rfl (hb hby d0_36) ?_
    show Steps p.tables e below (s₁.setTop (mkF m 37 #[.val (.int (5 : Int32))] [(.int (4 : Int32)), (.int (5 : Int32))])) _
    refine XS.icmpYes X0.here hx rfl (pc0 := 37) (pc' := 44) rfl (hb hby d0_37) rfl (by decide +kernel) (by decide) (by decide) ?_
    show Steps p.tables e below (s₁.setTop (mkF m 44 #[.val (.int (5 : Int32))] [])) _
    refine XS.iloadN X0.here hx rfl (hb hby d0_44) rfl ?_
    show Steps p.tables e below (s₁.setTop (mkF m 45 #[.val (.int (5 : Int32))] [(.int (5 : Int32))])) _
    refine XS.iconst X0.here hx rfl (hb hby d0_45) ?_
    show Steps p.tables e below (s₁.setTop (mkF m 46 #[.val (.int (5 : Int32))] [(.int (5 : Int32)), (.int (5 : Int32))])) _
    refine XS.icmpNo X0.here hx rfl (hb hby d0_46) rfl (by decide +kernel) ?_
    show Steps p.tables e below (s₁.setTop (mkF m 49 #[.val (.int (5 : Int32))] [])) _
    refine st1 _ ?_
    show Steps p.tables e below (T1.setTop (mkF m 52 #[.val (.int (5 : Int32))] [(.ref s_DEEP_HISTORY)])) _
    exact retOut X1 hx (i := .areturn) Bd.returns rfl (Or.inr (Or.inr (Or.inr (Or.inr ⟨rfl, rfl, rfl⟩)))) (hb hby d0_52) hr
  · exact ⟨rfl, N0, e1⟩
set_option maxRecDepth 65536 in
set_option maxHeartbeats 40000000 in
theorem r16 (l : Launch) (Z : State) (a0 : Array Value) (hw : ∀ d ∈ tables_1, d.before a0 Z = true) (ws : List Jvm.Cond) (h0 : Heap) (n0 : Nat) (s_JUNCTION : Addr) (s_FORK : Addr) (s_JOIN : Addr) (s_CHOICE : Addr) (s_ENTRY_POINT : Addr) (s_EXIT_POINT : Addr) (s_SHALLOW_HISTORY : Addr) (s_DEEP_HISTORY : Addr) (s_TERMINATE : Addr) (K : Ctx Z h0 s_JUNCTION s_FORK s_JOIN s_CHOICE s_ENTRY_POINT s_EXIT_POINT s_SHALLOW_HISTORY s_DEEP_HISTORY s_TERMINATE) :
    MetFree l (⟨"com/example/regionwise/regionwise/core/PseudostateKind", "spansRegions", "()Z"⟩ : MethodName) (head1 (Jvm.Cond.code (⟨"com/example/regionwise/regionwise/core/PseudostateKind", "spansRegions", "()Z"⟩ : MethodName) prog_62_method_8_code 1 (some .boolean) :: ws) ({ frames := 0, cells := 0, slots := 0, locals := 0 } : Room)) (fun a U => a = #[(.ref s_DEEP_HISTORY)] ∧ Z.Warmed39 U.vm ∧ U.heap = h0) (fun _ _ _ _ _ => True) (fun _ U o U' => ∃ v L, o = .returned v ∧ QV (.int (0 : Int32)) h0 n0 v U'.heap L ∧ FrameEnd U o U' L ({ frames := 0, cells := 0, slots := 0, locals := 0 } : Room).cells ({ frames := 0, cells := 0, slots := 0, locals := 0 } : Room).slots) := by
  obtain ⟨S_JUNCTION, S_FORK, ne_FORK_JUNCTION, S_JOIN, ne_JOIN_JUNCTION, E_JUNCTION, S_CHOICE, ne_CHOICE_FORK, ne_CHOICE_JOIN, E_CHOICE, S_ENTRY_POINT, ne_ENTRY_POINT_FORK, ne_ENTRY_POINT_JOIN, E_ENTRY_POINT, S_EXIT_POINT, ne_EXIT_POINT_FORK, ne_EXIT_POINT_JOIN, E_EXIT_POINT, S_SHALLOW_HISTORY, ne_FORK_SHALLOW_HISTORY, ne_JOIN_SHALLOW_HISTORY, E_SHALLOW_HISTORY, S_DEEP_HISTORY, ne_DEEP_HISTORY_FORK, ne_DEEP_HISTORY_JOIN, E_DEEP_HISTORY, E_FORK, ne_FORK_JOIN, E_JOIN, S_TERMINATE, ne_FORK_TERMINATE, ne_JOIN_TERMINATE, E_TERMINATE⟩ := id K
  refine MetFree.of_bodySF (plainFor_of_name pn1) hisR ?_
  intro p e s m args below meth c s₁ Bd hml0 hP hK
  obtain ⟨rfl, hZ, hh⟩ := hP
  have hx := Bd.exec
  have hby := Bd.bytes
  have hml : c.maxLocals = 1 := hml0
  have hown : s.vm.findClass "com/example/regionwise/regionwise/core/PseudostateKind" = some m.cls := findClass_of_methodNamed Bd.named
  have X0 : Stand p l e ({ frames := 0, cells := 0, slots := 0, locals := 0 } : Room) s m #[(.ref s_DEEP_HISTORY)] below meth c s₁ [] 0 0 := Stand.of_body Bd
  have e0 : s₁.heap = h0 := by rw [← hh, Bd.state]; rfl
  have N0 := Fr.nil n0
  have pre0 : ∀ t, Steps p.tables e below (s₁.setTop (mkF m 0 #[.val (.ref s_DEEP_HISTORY)] [])) t → Steps p.tables e below (s₁.setTop (entryFrame m #[(.ref s_DEEP_HISTORY)] 1)) t := fun t k => castTop (by first | (simp [entryFrame, mkF, argsToLocals, Value.category]; done) | rfl) k
  obtain ⟨T1, X1, e1, st1⟩ := getS X0 hx hZ hown (host := "") (hw _ (List.mem_of_getElem? (i := 13) rfl)) Via.refl e0 S_FORK (g := (mkF m 1 #[.val (.ref s_DEEP_HISTORY)] [(.ref s_DEEP_HISTORY)])) rfl (hb hby d1_1)
  obtain ⟨T2, X2, e2, st2⟩ := getS X1 hx hZ hown (host := "") (hw _ (List.mem_of_getElem? (i := 15) rfl)) Via.refl e1 S_JOIN (g := (mkF m 8 #[.val (.ref s_DEEP_HISTORY)] [(.ref s_DEEP_HISTORY)])) rfl (hb hby d1_8)
  obtain ⟨fs, hr, hrun, hended, hW, hsame⟩ := X2.leave (v := some (.int (0 : Int32))) (fun h => by rw [Bd.returns] at h; cases h)
  refine ⟨_, _, pre0 _ ?_, hrun, hended, _, _, rfl, ?_, ⟨_, rfl⟩, hW, hsame.mono (by decide) (by decide)⟩
  · show Steps p.tables e below (s₁.setTop (mkF m 0 #[.val (.ref s_DEEP_HISTORY)] [])) _
    refine XS.aloadN X0.here hx rfl (hb hby d1_0) rfl rfl ?_
    show Steps p.tables e below (s₁.setTop (mkF m 1 #[.val (.ref s_DEEP_HISTORY)] [(.ref s_DEEP_HISTORY)])) _
    refine st1 _ ?_
    show Steps p.tables e below (T1.setTop (mkF m 4 #[.val (.ref s_DEEP_HISTORY)] [(.ref s_FORK), (.ref s_DEEP_HISTORY)])) _
    refine Jvm.RoadKit.acmp (g := (mkF m 4 #[.val (.ref s_DEEP_HISTORY)] [(.ref s_FORK), (.ref s_DEEP_HISTORY)])) X1 hx rfl rfl rfl (pc0 := 4) (pc' := 7) (same := false) rfl (hb hby d1_4) rfl (decide_eq_false fun q => ne_DEEP_HISTORY_FORK (Value.ref.inj q)) (by decide) (by decide) ?_
    show Steps p.tables e below (T1.setTop (mkF m 7 #[.val (.ref s_DEEP_HISTORY)] [])) _
    refine XS.aloadN X1.here hx rfl (hb hby d1_7) rfl rfl ?_
    show Steps p.tables e below (T1.setTop (mkF m 8 #[.val (.ref s_DEEP_HISTORY)] [(.ref s_DEEP_HISTORY)])) _
    refine st2 _ ?_
    show Steps p.tables e below (T2.setTop (mkF m 11 #[.val (.ref s_DEEP_HISTORY)] [(.ref s_JOIN), (.ref s_DEEP_HISTORY)])) _
    refine Jvm.RoadKit.acmp (g := (mkF m 11 #[.val (.ref s_DEEP_HISTORY)] [(.ref s_JOIN), (.ref s_DEEP_HISTORY)])) X2 hx rfl rfl rfl (pc0 := 11) (pc' := 18) (same := false) rfl (hb hby d1_11) rfl (decide_eq_false fun q => ne_DEEP_HISTORY_JOIN (Value.ref.inj q)) (by decide) (by decide) ?_
    show Steps p.tables e below (T2.setTop (mkF m 18 #[.val (.ref s_DEEP_HISTORY)] [])) _
    refine XS.iconst X2.here hx rfl (hb hby d1_18) ?_
    show Steps p.tables e below (T2.setTop (mkF m 19 #[.val (.ref s_DEEP_HISTORY)] [(.int (0 : Int32))])) _
    exact retN X2 hx (t := .boolean) Bd.returns (by simp) (hb hby d1_19) hr
  · exact ⟨rfl, N0, e2⟩
set_option maxRecDepth 65536 in
set_option maxHeartbeats 40000000 in
theorem law_k5 (l : Launch) (Z : State) (a0 : Array Value) (hw : ∀ d ∈ tables_1, d.before a0 Z = true) (ws : List Jvm.Cond) (h0 : Heap) (n0 : Nat) (s_JUNCTION : Addr) (s_FORK : Addr) (s_JOIN : Addr) (s_CHOICE : Addr) (s_ENTRY_POINT : Addr) (s_EXIT_POINT : Addr) (s_SHALLOW_HISTORY : Addr) (s_DEEP_HISTORY : Addr) (s_TERMINATE : Addr) (K : Ctx Z h0 s_JUNCTION s_FORK s_JOIN s_CHOICE s_ENTRY_POINT s_EXIT_POINT s_SHALLOW_HISTORY s_DEEP_HISTORY s_TERMINATE) (p0 : Int32) (hp0 : ((p0 &&& (2147483647 : Int32)) % (9 : Int32)) = (5 : Int32)) :
    MetFree l x (head1 (Jvm.Cond.code x code maxLocals ret :: ws) room_1) (fun a U => a = #[(.int p0)] ∧ Z.Warmed39 U.vm ∧ U.heap = h0) (fun _ _ _ _ _ => True) (fun _ U o U' => ∃ v L, o = .returned v ∧ QV (.int (1 : Int32)) h0 n0 v U'.heap L ∧ FrameEnd U o U' L room_1.cells room_1.slots) := by
  obtain ⟨S_JUNCTION, S_FORK, ne_FORK_JUNCTION, S_JOIN, ne_JOIN_JUNCTION, E_JUNCTION, S_CHOICE, ne_CHOICE_FORK, ne_CHOICE_JOIN, E_CHOICE, S_ENTRY_POINT, ne_ENTRY_POINT_FORK, ne_ENTRY_POINT_JOIN, E_ENTRY_POINT, S_EXIT_POINT, ne_EXIT_POINT_FORK, ne_EXIT_POINT_JOIN, E_EXIT_POINT, S_SHALLOW_HISTORY, ne_FORK_SHALLOW_HISTORY, ne_JOIN_SHALLOW_HISTORY, E_SHALLOW_HISTORY, S_DEEP_HISTORY, ne_DEEP_HISTORY_FORK, ne_DEEP_HISTORY_JOIN, E_DEEP_HISTORY, E_FORK, ne_FORK_JOIN, E_JOIN, S_TERMINATE, ne_FORK_TERMINATE, ne_JOIN_TERMINATE, E_TERMINATE⟩ := id K
  refine MetFree.of_bodySF (plainFor_of_name pn2) hisR ?_
  intro p e s m args below meth c s₁ Bd hml0 hP hK
  obtain ⟨rfl, hZ, hh⟩ := hP
  have hx := Bd.exec
  have hby := Bd.bytes
  have hml : c.maxLocals = 4 := hml0
  have hown : s.vm.findClass "com/example/regionwise/regionwise/core/PseudostateKindSpansRegionsPinLaw" = some m.cls := findClass_of_methodNamed Bd.named
  have X0 : Stand p l e room_1 s m #[(.int p0)] below meth c s₁ [] 0 0 := Stand.of_body Bd
  have e0 : s₁.heap = h0 := by rw [← hh, Bd.state]; rfl
  have N0 := Fr.nil n0
  have pre0 : ∀ t, Steps p.tables e below (s₁.setTop (mkF m 0 #[.val (.int p0), .unset, .unset, .unset] [])) t → Steps p.tables e below (s₁.setTop (entryFrame m #[(.int p0)] maxLocals)) t := fun t k => castTop (by first | (simp [entryFrame, mkF, argsToLocals, Value.category, maxLocals]; done) | rfl) k
  obtain ⟨_, _, ⟨T1, L1, k1, n1⟩, -, X1, ⟨Lc1, hQ1, l1, y1, z1⟩, st1⟩ := Jvm.LawKit.callS X0 hx (y := (⟨"com/example/regionwise/regionwise/core/PseudostateKindSpansRegionsPinLaw", "pick", "(I)Lcom/example/regionwise/regionwise/core/PseudostateKind;"⟩ : MethodName)) hown (mvT hZ (hw _ (List.mem_of_getElem? (i := 1) rfl))) (mvT hZ (hw _ (List.mem_of_getElem? (i := 2) rfl))) (mvT hZ (hw _ (List.mem_of_getElem? (i := 3) rfl))) (mvT hZ (hw _ (List.mem_of_getElem? (i := 4) rfl))) (by decide) (backOf (W := 0) (r15 l Z a0 hw [] h0 n0 s_JUNCTION s_FORK s_JOIN s_CHOICE s_ENTRY_POINT s_EXIT_POINT s_SHALLOW_HISTORY s_DEEP_HISTORY s_TERMINATE K) hZ (hw _ (List.mem_of_getElem? (i := 4) rfl)) (hw _ (List.mem_of_getElem? (i := 3) rfl)) (by decide) (by decide)) (g := (mkF m 9 #[.val (.int p0), .val (.int (5 : Int32)), .unset, .unset] [(.int (5 : Int32))])) rfl (by rw [hml]; rfl) (argsL := [(.int (5 : Int32))]) (rest := []) (lenOf pd0 rfl) rfl (by show 2 * 0 + _ ≤ _; exact Nat.le_of_eq rfl) (hb hby at_9) (fun _ _ => ⟨rfl, e0, (by decide : 0 + 0 ≤ _), (by decide : 0 + 0 ≤ _)⟩)
  dsimp only [Pt.U, Pt.locs, Pt.cells, Pt.slots] at X1 l1 y1 z1 st1 hQ1
  subst l1 y1 z1
  obtain ⟨rfl, N1q, e1⟩ := hQ1
  have N1 := Fr.app N0 N1q
  obtain ⟨cq2, kq2, q2a, q2b, q2c⟩ := isOf hZ e1 E_DEEP_HISTORY
  obtain ⟨_, _, ⟨T2, L2, k2, n2⟩, -, X2, ⟨Lc2, hQ2, l2, y2, z2⟩, st2⟩ := X1.virtualBack hx (y := (⟨"com/example/regionwise/regionwise/core/PseudostateKind", "spansRegions", "()Z"⟩ : MethodName)) (z := (⟨"com/example/regionwise/regionwise/core/PseudostateKind", "spansRegions", "()Z"⟩ : MethodName)) hown (mvT hZ (hw _ (List.mem_of_getElem? (i := 8) rfl))) (mvT hZ (hw _ (List.mem_of_getElem? (i := 9) rfl))) (notFace_of_selects (args := #[]) (mvT hZ (hw _ (List.mem_of_getElem? (i := 11) rfl)))) (mvT hZ (hw _ (List.mem_of_getElem? (i := 11) rfl))) (mvT hZ (hw _ (List.mem_of_getElem? (i := 10) rfl))) (by decide) (backOf (W := 0) (r16 l Z a0 hw [] h0 n0 s_JUNCTION s_FORK s_JOIN s_CHOICE s_ENTRY_POINT s_EXIT_POINT s_SHALLOW_HISTORY s_DEEP_HISTORY s_TERMINATE K) hZ (hw _ (List.mem_of_getElem? (i := 12) rfl)) (hw _ (List.mem_of_getElem? (i := 6) rfl)) (by decide) (by decide)) q2a q2c (g := (mkF m 32 #[.val (.int p0), .val (.int (5 : Int32)), .val (.ref s_DEEP_HISTORY), .val (.int (0 : Int32))] [(.ref s_DEEP_HISTORY)])) rfl (by rw [hml]; rfl) (Steps.refl _) (argsL := []) (rest := []) (lenOf pd1 rfl) rfl (by show 2 * 0 + _ ≤ _; exact Nat.le_of_eq rfl) (hb hby at_32) (fun _ _ => ⟨rfl, e1, (by decide : 0 + 0 ≤ _), (by decide : 0 + 0 ≤ _)⟩)
  dsimp only [Pt.U, Pt.locs, Pt.cells, Pt.slots] at X2 l2 y2 z2 st2 hQ2
  subst l2 y2 z2
  obtain ⟨rfl, N2q, e2⟩ := hQ2
  have N2 := Fr.app N1 N2q
  obtain ⟨fs, hr, hrun, hended, hW, hsame⟩ := X2.leave (v := some (.int (1 : Int32))) (fun h => by rw [Bd.returns] at h; cases h)
  refine ⟨_, _, pre0 _ ?_, hrun, hended, _, _, rfl, ?_, ⟨_, rfl⟩, hW, hsame.mono (by decide) (by decide)⟩
  · show Steps p.tables e below (s₁.setTop (mkF m 0 #[.val (.int p0), .unset, .unset, .unset] [])) _
    refine XS.iloadN X0.here hx rfl (hb hby at_0) rfl ?_
    show Steps p.tables e below (s₁.setTop (mkF m 1 #[.val (.int p0), .unset, .unset, .unset] [(.int p0)])) _
    refine X0.ldcInt hx hown (mvT hZ (hw _ (List.mem_of_getElem? (i := 0) rfl))) (g := (mkF m 1 #[.val (.int p0), .unset, .unset, .unset] [(.int p0)])) rfl (hb hby at_1) _ ?_
    show Steps p.tables e below (s₁.setTop (mkF m 3 #[.val (.int p0), .unset, .unset, .unset] [(.int (2147483647 : Int32)), (.int p0)])) _
    refine XS.iand X0.here hx rfl (hb hby at_3) rfl ?_
    show Steps p.tables e below (s₁.setTop (mkF m 4 #[.val (.int p0), .unset, .unset, .unset] [(.int (p0 &&& (2147483647 : Int32)))])) _
    refine XS.bipush X0.here hx rfl (hb hby at_4) ?_
    show Steps p.tables e below (s₁.setTop (mkF m 6 #[.val (.int p0), .unset, .unset, .unset] [(.int (9 : Int32)), (.int (p0 &&& (2147483647 : Int32)))])) _
    refine Jvm.RoadKit.iremM X0 hx rfl (hb hby at_6) rfl (by decide) ?_
    show Steps p.tables e below (s₁.setTop (mkF m 7 #[.val (.int p0), .unset, .unset, .unset] [(.int ((p0 &&& (2147483647 : Int32)) % (9 : Int32)))])) _
    rw [hp0]
    show Steps p.tables e below (s₁.setTop (mkF m 7 #[.val (.int p0), .unset, .unset, .unset] [(.int (5 : Int32))])) _
    refine XS.istoreN X0.here hx rfl (hb hby at_7) rfl (l' := #[.val (.int p0), .val (.int (5 : Int32)), .unset, .unset]) rfl ?_
    show Steps p.tables e below (s₁.setTop (mkF m 8 #[.val (.int p0), .val (.int (5 : Int32)), .unset, .unset] [])) _
    refine XS.iloadN X0.here hx rfl (hb hby at_8) rfl ?_
    show Steps p.tables e below (s₁.setTop (mkF m 9 #[.val (.int p0), .val (.int (5 : Int32)), .unset, .unset] [(.int (5 : Int32))])) _
    refine st1 _ ?_
    show Steps p.tables e below (T1.setTop (mkF m 12 #[.val (.int p0), .val (.int (5 : Int32)), .unset, .unset] [(.ref s_DEEP_HISTORY)])) _
    refine XS.astoreN X1.here hx rfl (hb hby at_12) rfl rfl (l' := #[.val (.int p0), .val (.int (5 : Int32)), .val (.ref s_DEEP_HISTORY), .unset]) rfl ?_
    show Steps p.tables e below (T1.setTop (mkF m 13 #[.val (.int p0), .val (.int (5 : Int32)), .val (.ref s_DEEP_HISTORY), .unset] [])) _
    refine XS.iloadN X1.here hx rfl (hb hby at_13) rfl ?_
    show Steps p.tables e below (T1.setTop (mkF m 14 #[.val (.int p0), .val (.int (5 : Int32)), .val (.ref s_DEEP_HISTORY), .unset] [(.int (5 : Int32))])) _
    refine XS.bipush X1.here hx rfl (hb hby at_14) ?_
    show Steps p.tables e below (T1.setTop (mkF m 16 #[.val (.int p0), .val (.int (5 : Int32)), .val (.ref s_DEEP_HISTORY), .unset] [(.int (6 : Int32)), (.int (5 : Int32))])) _
    refine XS.icmpNo X1.here hx rfl (hb hby at_16) rfl (by decide +kernel) ?_
    show Steps p.tables e below (T1.setTop (mkF m 19 #[.val (.int p0), .val (.int (5 : Int32)), .val (.ref s_DEEP_HISTORY), .unset] [])) _
    refine XS.iloadN X1.here hx rfl (hb hby at_19) rfl ?_
    show Steps p.tables e below (T1.setTop (mkF m 20 #[.val (.int p0), .val (.int (5 : Int32)), .val (.ref s_DEEP_HISTORY), .unset] [(.int (5 : Int32))])) _
    refine XS.bipush X1.here hx rfl (hb hby at_20) ?_
    show Steps p.tables e below (T1.setTop (mkF m 22 #[.val (.int p0), .val (.int (5 : Int32)), .val (.ref s_DEEP_HISTORY), .unset] [(.int (7 : Int32)), (.int (5 : Int32))])) _
    refine XS.icmpYes X1.here hx rfl (pc0 := 22) (pc' := 29) rfl (hb hby at_22) rfl (by decide +kernel) (by decide) (by decide) ?_
    show Steps p.tables e below (T1.setTop (mkF m 29 #[.val (.int p0), .val (.int (5 : Int32)), .val (.ref s_DEEP_HISTORY), .unset] [])) _
    refine XS.iconst X1.here hx rfl (hb hby at_29) ?_
    show Steps p.tables e below (T1.setTop (mkF m 30 #[.val (.int p0), .val (.int (5 : Int32)), .val (.ref s_DEEP_HISTORY), .unset] [(.int (0 : Int32))])) _
    refine XS.istoreN X1.here hx rfl (hb hby at_30) rfl (l' := #[.val (.int p0), .val (.int (5 : Int32)), .val (.ref s_DEEP_HISTORY), .val (.int (0 : Int32))]) rfl ?_
    show Steps p.tables e below (T1.setTop (mkF m 31 #[.val (.int p0), .val (.int (5 : Int32)), .val (.ref s_DEEP_HISTORY), .val (.int (0 : Int32))] [])) _
    refine XS.aloadN X1.here hx rfl (hb hby at_31) rfl rfl ?_
    show Steps p.tables e below (T1.setTop (mkF m 32 #[.val (.int p0), .val (.int (5 : Int32)), .val (.ref s_DEEP_HISTORY), .val (.int (0 : Int32))] [(.ref s_DEEP_HISTORY)])) _
    refine st2.trans ?_
    show Steps p.tables e below (T2.setTop (mkF m 35 #[.val (.int p0), .val (.int (5 : Int32)), .val (.ref s_DEEP_HISTORY), .val (.int (0 : Int32))] [(.int (0 : Int32))])) _
    refine XS.iloadN X2.here hx rfl (hb hby at_35) rfl ?_
    show Steps p.tables e below (T2.setTop (mkF m 36 #[.val (.int p0), .val (.int (5 : Int32)), .val (.ref s_DEEP_HISTORY), .val (.int (0 : Int32))] [(.int (0 : Int32)), (.int (0 : Int32))])) _
    refine XS.icmpNo X2.here hx rfl (hb hby at_36) rfl (by decide +kernel) ?_
    show Steps p.tables e below (T2.setTop (mkF m 39 #[.val (.int p0), .val (.int (5 : Int32)), .val (.ref s_DEEP_HISTORY), .val (.int (0 : Int32))] [])) _
    refine XS.iconst X2.here hx rfl (hb hby at_39) ?_
    show Steps p.tables e below (T2.setTop (mkF m 40 #[.val (.int p0), .val (.int (5 : Int32)), .val (.ref s_DEEP_HISTORY), .val (.int (0 : Int32))] [(.int (1 : Int32))])) _
    refine XS.goto X2.here hx rfl (pc0 := 40) (pc' := 44) rfl (hb hby at_40) (by decide) (by decide) ?_
    show Steps p.tables e below (T2.setTop (mkF m 44 #[.val (.int p0), .val (.int (5 : Int32)), .val (.ref s_DEEP_HISTORY), .val (.int (0 : Int32))] [(.int (1 : Int32))])) _
    exact retN X2 hx (t := .boolean) Bd.returns (by simp) (hb hby at_44) hr
  · exact ⟨rfl, N2, e2⟩
set_option maxRecDepth 65536 in
set_option maxHeartbeats 40000000 in
theorem r18 (l : Launch) (Z : State) (a0 : Array Value) (hw : ∀ d ∈ tables_1, d.before a0 Z = true) (ws : List Jvm.Cond) (h0 : Heap) (n0 : Nat) (s_JUNCTION : Addr) (s_FORK : Addr) (s_JOIN : Addr) (s_CHOICE : Addr) (s_ENTRY_POINT : Addr) (s_EXIT_POINT : Addr) (s_SHALLOW_HISTORY : Addr) (s_DEEP_HISTORY : Addr) (s_TERMINATE : Addr) (K : Ctx Z h0 s_JUNCTION s_FORK s_JOIN s_CHOICE s_ENTRY_POINT s_EXIT_POINT s_SHALLOW_HISTORY s_DEEP_HISTORY s_TERMINATE) :
    MetFree l (⟨"com/example/regionwise/regionwise/core/PseudostateKindSpansRegionsPinLaw", "pick", "(I)Lcom/example/regionwise/regionwise/core/PseudostateKind;"⟩ : MethodName) (head1 (Jvm.Cond.code (⟨"com/example/regionwise/regionwise/core/PseudostateKindSpansRegionsPinLaw", "pick", "(I)Lcom/example/regionwise/regionwise/core/PseudostateKind;"⟩ : MethodName) method_2_code 1 (some (.object "com/example/regionwise/regionwise/core/PseudostateKind")) :: ws) ({ frames := 0, cells := 0, slots := 0, locals := 0 } : Room)) (fun a U => a = #[(.int (6 : Int32))] ∧ Z.Warmed39 U.vm ∧ U.heap = h0) (fun _ _ _ _ _ => True) (fun _ U o U' => ∃ v L, o = .returned v ∧ QV (.ref s_FORK) h0 n0 v U'.heap L ∧ FrameEnd U o U' L ({ frames := 0, cells := 0, slots := 0, locals := 0 } : Room).cells ({ frames := 0, cells := 0, slots := 0, locals := 0 } : Room).slots) := by
  obtain ⟨S_JUNCTION, S_FORK, ne_FORK_JUNCTION, S_JOIN, ne_JOIN_JUNCTION, E_JUNCTION, S_CHOICE, ne_CHOICE_FORK, ne_CHOICE_JOIN, E_CHOICE, S_ENTRY_POINT, ne_ENTRY_POINT_FORK, ne_ENTRY_POINT_JOIN, E_ENTRY_POINT, S_EXIT_POINT, ne_EXIT_POINT_FORK, ne_EXIT_POINT_JOIN, E_EXIT_POINT, S_SHALLOW_HISTORY, ne_FORK_SHALLOW_HISTORY, ne_JOIN_SHALLOW_HISTORY, E_SHALLOW_HISTORY, S_DEEP_HISTORY, ne_DEEP_HISTORY_FORK, ne_DEEP_HISTORY_JOIN, E_DEEP_HISTORY, E_FORK, ne_FORK_JOIN, E_JOIN, S_TERMINATE, ne_FORK_TERMINATE, ne_JOIN_TERMINATE, E_TERMINATE⟩ := id K
  refine MetFree.of_bodySF (plainFor_of_name pn0) hisR ?_
  intro p e s m args below meth c s₁ Bd hml0 hP hK
  obtain ⟨rfl, hZ, hh⟩ := hP
  have hx := Bd.exec
  have hby := Bd.bytes
  have hml : c.maxLocals = 1 := hml0
  have hown : s.vm.findClass "com/example/regionwise/regionwise/core/PseudostateKindSpansRegionsPinLaw" = some m.cls := findClass_of_methodNamed Bd.named
  have X0 : Stand p l e ({ frames := 0, cells := 0, slots := 0, locals := 0 } : Room) s m #[(.int (6 : Int32))] below meth c s₁ [] 0 0 := Stand.of_body Bd
  have e0 : s₁.heap = h0 := by rw [← hh, Bd.state]; rfl
  have N0 := Fr.nil n0
  have pre0 : ∀ t, Steps p.tables e below (s₁.setTop (mkF m 0 #[.val (.int (6 : Int32))] [])) t → Steps p.tables e below (s₁.setTop (entryFrame m #[(.int (6 : Int32))] 1)) t := fun t k => castTop (by first | (simp [entryFrame, mkF, argsToLocals, Value.category]; done) | rfl) k
  obtain ⟨T1, X1, e1, st1⟩ := getS X0 hx hZ hown (host := "") (hw _ (List.mem_of_getElem? (i := 28) rfl)) Via.refl e0 S_FORK (g := (mkF m 59 #[.val (.int (6 : Int32))] [])) rfl (hb hby d0_59)
  obtain ⟨fs, hr, hrun, hended, hW, hsame⟩ := X1.leave (v := some (.ref s_FORK)) (fun h => by rw [Bd.returns] at h; cases h)
  refine ⟨_, _, pre0 _ ?_, hrun, hended, _, _, rfl, ?_, ⟨_, rfl⟩, hW, hsame.mono (by decide) (by decide)⟩
  · show Steps p.tables e below (s₁.setTop (mkF m 0 #[.val (.int (6 : Int32))] [])) _
    refine XS.iloadN X0.here hx rfl (hb hby d0_0) rfl ?_
    show Steps p.tables e below (s₁.setTop (mkF m 1 #[.val (.int (6 : Int32))] [(.int (6 : Int32))])) _
    refine XS.ifYes X0.here hx rfl (pc0 := 1) (pc' := 8) rfl (hb hby d0_1) rfl (by decide +kernel) (by decide) (by decide) ?_
    show Steps p.tables e below (s₁.setTop (mkF m 8 #[.val (.int (6 : Int32))] [])) _
    refine XS.iloadN X0.here hx rfl (hb hby d0_8) rfl ?_
    show Steps p.tables e below (s₁.setTop (mkF m 9 #[.val (.int (6 : Int32))] [(.int (6 : Int32))])) _
    refine XS.iconst X0.here hx rfl (hb hby d0_9) ?_
    show Steps p.tables e below (s₁.setTop (mkF m 10 #[.val (.int (6 : Int32))] [(.int (1 : Int32)), (.int (6 : Int32))])) _
    refine XS.icmpYes X0.here hx rfl (pc0 := 10) (pc' := 17) rfl (hb hby d0_10) rfl (by decide +kernel) (by decide) (by decide) ?_
    show Steps p.tables e below (s₁.setTop (mkF m 17 #[.val (.int (6 : Int32))] [])) _
    refine XS.iloadN X0.here hx rfl (hb hby d0_17) rfl ?_
    show Steps p.tables e below (s₁.setTop (mkF m 18 #[.val (.int (6 : Int32))] [(.int (6 : Int32))])) _
    refine XS.iconst X0.here hx rfl (hb hby d0_18) ?_
    show Steps p.tables e below (s₁.setTop (mkF m 19 #[.val (.int (6 : Int32))] [(.int (2 : Int32)), (.int (6 : Int32))])) _
    refine XS.icmpYes X0.here hx rfl (pc0 := 19) (pc' := 26) rfl (hb hby d0_19) rfl (by decide +kernel) (by decide) (by decide) ?_
    show Steps p.tables e below (s₁.setTop (mkF m 26 #[.val (.int (6 : Int32))] [])) _
    refine XS.iloadN X0.here hx rfl (hb hby d0_26) rfl ?_
    show Steps p.tables e below (s₁.setTop (mkF m 27 #[.val (.int (6 : Int32))] [(.int (6 : Int32))])) _
    refine XS.iconst X0.here hx rfl (hb hby d0_27) ?_
    show Steps p.tables e below (s₁.setTop (mkF m 28 #[.val (.int (6 : Int32))] [(.int (3 : Int32)), (.int (6 : Int32))])) _
    refine XS.icmpYes X0.here hx rfl (pc0 := 28) (pc' := 35) rfl (hb hby d0_28) rfl (by decide +kernel) (by decide) (by decide) ?_
    show Steps p.tables e below (s₁.setTop (mkF m 35 #[.val (.int (6 : Int32))] [])) _
    refine XS.iloadN X0.here hx rfl (hb hby d0_35) rfl ?_
    show Steps p.tables e below (s₁.setTop (mkF m 36 #[.val (.int (6 : Int32))] [(.int (6 : Int32))])) _
    refine XS.iconst X0.here hx rfl (hb hby d0_36) ?_
    show Steps p.tables e below (s₁.setTop (mkF m 37 #[.val (.int (6 : Int32))] [(.int (4 : Int32)), (.int (6 : Int32))])) _
    refine XS.icmpYes X0.here hx rfl (pc0 := 37) (pc' := 44) rfl (hb hby d0_37) rfl (by decide +kernel) (by decide) (by decide) ?_
    show Steps p.tables e below (s₁.setTop (mkF m 44 #[.val (.int (6 : Int32))] [])) _
    refine XS.iloadN X0.here hx rfl (hb hby d0_44) rfl ?_
    show Steps p.tables e below (s₁.setTop (mkF m 45 #[.val (.int (6 : Int32))] [(.int (6 : Int32))])) _
    refine XS.iconst X0.here hx rfl (hb hby d0_45) ?_
    show Steps p.tables e below (s₁.setTop (mkF m 46 #[.val (.int (6 : Int32))] [(.int (5 : Int32)), (.int (6 : Int32))])) _
    refine XS.icmpYes X0.here hx rfl (pc0 := 46) (pc' := 53) rfl (hb hby d0_46) rfl (by decide +kernel) (by decide) (by decide) ?_
    show Steps p.tables e below (s₁.setTop (mkF m 53 #[.val (.int (6 : Int32))] [])) _
    refine XS.iloadN X0.here hx rfl (hb hby d0_53) rfl ?_
    show Steps p.tables e below (s₁.setTop (mkF m 54 #[.val (.int (6 : Int32))] [(.int (6 : Int32))])) _
    refine XS.bipush X0.here hx rfl (hb hby d0_54) ?_
    show Steps p.tables e below (s₁.setTop (mkF m 56 #[.val (.int (6 : Int32))] [(.int (6 : Int32)), (.int (6 : Int32))])) _
    refine XS.icmpNo X0.here hx rfl (hb hby d0_56) rfl (by decide +kernel) ?_
    show Steps p.tables e below (s₁.setTop (mkF m 59 #[.val (.int (6 : Int32))] [])) _
    refine st1 _ ?_
    show Steps p.tables e below (T1.setTop (mkF m 62 #[.val (.int (6 : Int32))] [(.ref s_FORK)])) _
    exact retOut X1 hx (i := .areturn) Bd.returns rfl (Or.inr (Or.inr (Or.inr (Or.inr ⟨rfl, rfl, rfl⟩)))) (hb hby d0_62) hr
  · exact ⟨rfl, N0, e1⟩
set_option maxRecDepth 65536 in
set_option maxHeartbeats 40000000 in
theorem r19 (l : Launch) (Z : State) (a0 : Array Value) (hw : ∀ d ∈ tables_1, d.before a0 Z = true) (ws : List Jvm.Cond) (h0 : Heap) (n0 : Nat) (s_JUNCTION : Addr) (s_FORK : Addr) (s_JOIN : Addr) (s_CHOICE : Addr) (s_ENTRY_POINT : Addr) (s_EXIT_POINT : Addr) (s_SHALLOW_HISTORY : Addr) (s_DEEP_HISTORY : Addr) (s_TERMINATE : Addr) (K : Ctx Z h0 s_JUNCTION s_FORK s_JOIN s_CHOICE s_ENTRY_POINT s_EXIT_POINT s_SHALLOW_HISTORY s_DEEP_HISTORY s_TERMINATE) :
    MetFree l (⟨"com/example/regionwise/regionwise/core/PseudostateKind", "spansRegions", "()Z"⟩ : MethodName) (head1 (Jvm.Cond.code (⟨"com/example/regionwise/regionwise/core/PseudostateKind", "spansRegions", "()Z"⟩ : MethodName) prog_62_method_8_code 1 (some .boolean) :: ws) ({ frames := 0, cells := 0, slots := 0, locals := 0 } : Room)) (fun a U => a = #[(.ref s_FORK)] ∧ Z.Warmed39 U.vm ∧ U.heap = h0) (fun _ _ _ _ _ => True) (fun _ U o U' => ∃ v L, o = .returned v ∧ QV (.int (1 : Int32)) h0 n0 v U'.heap L ∧ FrameEnd U o U' L ({ frames := 0, cells := 0, slots := 0, locals := 0 } : Room).cells ({ frames := 0, cells := 0, slots := 0, locals := 0 } : Room).slots) := by
  obtain ⟨S_JUNCTION, S_FORK, ne_FORK_JUNCTION, S_JOIN, ne_JOIN_JUNCTION, E_JUNCTION, S_CHOICE, ne_CHOICE_FORK, ne_CHOICE_JOIN, E_CHOICE, S_ENTRY_POINT, ne_ENTRY_POINT_FORK, ne_ENTRY_POINT_JOIN, E_ENTRY_POINT, S_EXIT_POINT, ne_EXIT_POINT_FORK, ne_EXIT_POINT_JOIN, E_EXIT_POINT, S_SHALLOW_HISTORY, ne_FORK_SHALLOW_HISTORY, ne_JOIN_SHALLOW_HISTORY, E_SHALLOW_HISTORY, S_DEEP_HISTORY, ne_DEEP_HISTORY_FORK, ne_DEEP_HISTORY_JOIN, E_DEEP_HISTORY, E_FORK, ne_FORK_JOIN, E_JOIN, S_TERMINATE, ne_FORK_TERMINATE, ne_JOIN_TERMINATE, E_TERMINATE⟩ := id K
  refine MetFree.of_bodySF (plainFor_of_name pn1) hisR ?_
  intro p e s m args below meth c s₁ Bd hml0 hP hK
  obtain ⟨rfl, hZ, hh⟩ := hP
  have hx := Bd.exec
  have hby := Bd.bytes
  have hml : c.maxLocals = 1 := hml0
  have hown : s.vm.findClass "com/example/regionwise/regionwise/core/PseudostateKind" = some m.cls := findClass_of_methodNamed Bd.named
  have X0 : Stand p l e ({ frames := 0, cells := 0, slots := 0, locals := 0 } : Room) s m #[(.ref s_FORK)] below meth c s₁ [] 0 0 := Stand.of_body Bd
  have e0 : s₁.heap = h0 := by rw [← hh, Bd.state]; rfl
  have N0 := Fr.nil n0
  have pre0 : ∀ t, Steps p.tables e below (s₁.setTop (mkF m 0 #[.val (.ref s_FORK)] [])) t → Steps p.tables e below (s₁.setTop (entryFrame m #[(.ref s_FORK)] 1)) t := fun t k => castTop (by first | (simp [entryFrame, mkF, argsToLocals, Value.category]; done) | rfl) k
  obtain ⟨T1, X1, e1, st1⟩ := getS X0 hx hZ hown (host := "") (hw _ (List.mem_of_getElem? (i := 13) rfl)) Via.refl e0 S_FORK (g := (mkF m 1 #[.val (.ref s_FORK)] [(.ref s_FORK)])) rfl (hb hby d1_1)
  obtain ⟨fs, hr, hrun, hended, hW, hsame⟩ := X1.leave (v := some (.int (1 : Int32))) (fun h => by rw [Bd.returns] at h; cases h)
  refine ⟨_, _, pre0 _ ?_, hrun, hended, _, _, rfl, ?_, ⟨_, rfl⟩, hW, hsame.mono (by decide) (by decide)⟩
  · show Steps p.tables e below (s₁.setTop (mkF m 0 #[.val (.ref s_FORK)] [])) _
    refine XS.aloadN X0.here hx rfl (hb hby d1_0) rfl rfl ?_
    show Steps p.tables e below (s₁.setTop (mkF m 1 #[.val (.ref s_FORK)] [(.ref s_FORK)])) _
    refine st1 _ ?_
    show Steps p.tables e below (T1.setTop (mkF m 4 #[.val (.ref s_FORK)] [(.ref s_FORK), (.ref s_FORK)])) _
    refine Jvm.RoadKit.acmp (g := (mkF m 4 #[.val (.ref s_FORK)] [(.ref s_FORK), (.ref s_FORK)])) X1 hx rfl rfl rfl (pc0 := 4) (pc' := 14) (same := true) rfl (hb hby d1_4) rfl (decide_eq_true rfl) (by decide) (by decide) ?_
    show Steps p.tables e below (T1.setTop (mkF m 14 #[.val (.ref s_FORK)] [])) _
    refine XS.iconst X1.here hx rfl (hb hby d1_14) ?_
    show Steps p.tables e below (T1.setTop (mkF m 15 #[.val (.ref s_FORK)] [(.int (1 : Int32))])) _
    refine XS.goto X1.here hx rfl (pc0 := 15) (pc' := 19) rfl (hb hby d1_15) (by decide) (by decide) ?_
    show Steps p.tables e below (T1.setTop (mkF m 19 #[.val (.ref s_FORK)] [(.int (1 : Int32))])) _
    exact retN X1 hx (t := .boolean) Bd.returns (by simp) (hb hby d1_19) hr
  · exact ⟨rfl, N0, e1⟩
set_option maxRecDepth 65536 in
set_option maxHeartbeats 40000000 in
theorem law_k6 (l : Launch) (Z : State) (a0 : Array Value) (hw : ∀ d ∈ tables_1, d.before a0 Z = true) (ws : List Jvm.Cond) (h0 : Heap) (n0 : Nat) (s_JUNCTION : Addr) (s_FORK : Addr) (s_JOIN : Addr) (s_CHOICE : Addr) (s_ENTRY_POINT : Addr) (s_EXIT_POINT : Addr) (s_SHALLOW_HISTORY : Addr) (s_DEEP_HISTORY : Addr) (s_TERMINATE : Addr) (K : Ctx Z h0 s_JUNCTION s_FORK s_JOIN s_CHOICE s_ENTRY_POINT s_EXIT_POINT s_SHALLOW_HISTORY s_DEEP_HISTORY s_TERMINATE) (p0 : Int32) (hp0 : ((p0 &&& (2147483647 : Int32)) % (9 : Int32)) = (6 : Int32)) :
    MetFree l x (head1 (Jvm.Cond.code x code maxLocals ret :: ws) room_1) (fun a U => a = #[(.int p0)] ∧ Z.Warmed39 U.vm ∧ U.heap = h0) (fun _ _ _ _ _ => True) (fun _ U o U' => ∃ v L, o = .returned v ∧ QV (.int (1 : Int32)) h0 n0 v U'.heap L ∧ FrameEnd U o U' L room_1.cells room_1.slots) := by
  obtain ⟨S_JUNCTION, S_FORK, ne_FORK_JUNCTION, S_JOIN, ne_JOIN_JUNCTION, E_JUNCTION, S_CHOICE, ne_CHOICE_FORK, ne_CHOICE_JOIN, E_CHOICE, S_ENTRY_POINT, ne_ENTRY_POINT_FORK, ne_ENTRY_POINT_JOIN, E_ENTRY_POINT, S_EXIT_POINT, ne_EXIT_POINT_FORK, ne_EXIT_POINT_JOIN, E_EXIT_POINT, S_SHALLOW_HISTORY, ne_FORK_SHALLOW_HISTORY, ne_JOIN_SHALLOW_HISTORY, E_SHALLOW_HISTORY, S_DEEP_HISTORY, ne_DEEP_HISTORY_FORK, ne_DEEP_HISTORY_JOIN, E_DEEP_HISTORY, E_FORK, ne_FORK_JOIN, E_JOIN, S_TERMINATE, ne_FORK_TERMINATE, ne_JOIN_TERMINATE, E_TERMINATE⟩ := id K
  refine MetFree.of_bodySF (plainFor_of_name pn2) hisR ?_
  intro p e s m args below meth c s₁ Bd hml0 hP hK
  obtain ⟨rfl, hZ, hh⟩ := hP
  have hx := Bd.exec
  have hby := Bd.bytes
  have hml : c.maxLocals = 4 := hml0
  have hown : s.vm.findClass "com/example/regionwise/regionwise/core/PseudostateKindSpansRegionsPinLaw" = some m.cls := findClass_of_methodNamed Bd.named
  have X0 : Stand p l e room_1 s m #[(.int p0)] below meth c s₁ [] 0 0 := Stand.of_body Bd
  have e0 : s₁.heap = h0 := by rw [← hh, Bd.state]; rfl
  have N0 := Fr.nil n0
  have pre0 : ∀ t, Steps p.tables e below (s₁.setTop (mkF m 0 #[.val (.int p0), .unset, .unset, .unset] [])) t → Steps p.tables e below (s₁.setTop (entryFrame m #[(.int p0)] maxLocals)) t := fun t k => castTop (by first | (simp [entryFrame, mkF, argsToLocals, Value.category, maxLocals]; done) | rfl) k
  obtain ⟨_, _, ⟨T1, L1, k1, n1⟩, -, X1, ⟨Lc1, hQ1, l1, y1, z1⟩, st1⟩ := Jvm.LawKit.callS X0 hx (y := (⟨"com/example/regionwise/regionwise/core/PseudostateKindSpansRegionsPinLaw", "pick", "(I)Lcom/example/regionwise/regionwise/core/PseudostateKind;"⟩ : MethodName)) hown (mvT hZ (hw _ (List.mem_of_getElem? (i := 1) rfl))) (mvT hZ (hw _ (List.mem_of_getElem? (i := 2) rfl))) (mvT hZ (hw _ (List.mem_of_getElem? (i := 3) rfl))) (mvT hZ (hw _ (List.mem_of_getElem? (i := 4) rfl))) (by decide) (backOf (W := 0) (r18 l Z a0 hw [] h0 n0 s_JUNCTION s_FORK s_JOIN s_CHOICE s_ENTRY_POINT s_EXIT_POINT s_SHALLOW_HISTORY s_DEEP_HISTORY s_TERMINATE K) hZ (hw _ (List.mem_of_getElem? (i := 4) rfl)) (hw _ (List.mem_of_getElem? (i := 3) rfl)) (by decide) (by decide)) (g := (mkF m 9 #[.val (.int p0), .val (.int (6 : Int32)), .unset, .unset] [(.int (6 : Int32))])) rfl (by rw [hml]; rfl) (argsL := [(.int (6 : Int32))]) (rest := []) (lenOf pd0 rfl) rfl (by show 2 * 0 + _ ≤ _; exact Nat.le_of_eq rfl) (hb hby at_9) (fun _ _ => ⟨rfl, e0, (by decide : 0 + 0 ≤ _), (by decide : 0 + 0 ≤ _)⟩)
  dsimp only [Pt.U, Pt.locs, Pt.cells, Pt.slots] at X1 l1 y1 z1 st1 hQ1
  subst l1 y1 z1
  obtain ⟨rfl, N1q, e1⟩ := hQ1
  have N1 := Fr.app N0 N1q
  obtain ⟨cq2, kq2, q2a, q2b, q2c⟩ := isOf hZ e1 E_FORK
  obtain ⟨_, _, ⟨T2, L2, k2, n2⟩, -, X2, ⟨Lc2, hQ2, l2, y2, z2⟩, st2⟩ := X1.virtualBack hx (y := (⟨"com/example/regionwise/regionwise/core/PseudostateKind", "spansRegions", "()Z"⟩ : MethodName)) (z := (⟨"com/example/regionwise/regionwise/core/PseudostateKind", "spansRegions", "()Z"⟩ : MethodName)) hown (mvT hZ (hw _ (List.mem_of_getElem? (i := 8) rfl))) (mvT hZ (hw _ (List.mem_of_getElem? (i := 9) rfl))) (notFace_of_selects (args := #[]) (mvT hZ (hw _ (List.mem_of_getElem? (i := 11) rfl)))) (mvT hZ (hw _ (List.mem_of_getElem? (i := 11) rfl))) (mvT hZ (hw _ (List.mem_of_getElem? (i := 10) rfl))) (by decide) (backOf (W := 0) (r19 l Z a0 hw [] h0 n0 s_JUNCTION s_FORK s_JOIN s_CHOICE s_ENTRY_POINT s_EXIT_POINT s_SHALLOW_HISTORY s_DEEP_HISTORY s_TERMINATE K) hZ (hw _ (List.mem_of_getElem? (i := 12) rfl)) (hw _ (List.mem_of_getElem? (i := 6) rfl)) (by decide) (by decide)) q2a q2c (g := (mkF m 32 #[.val (.int p0), .val (.int (6 : Int32)), .val (.ref s_FORK), .val (.int (1 : Int32))] [(.ref s_FORK)])) rfl (by rw [hml]; rfl) (Steps.refl _) (argsL := []) (rest := []) (lenOf pd1 rfl) rfl (by show 2 * 0 + _ ≤ _; exact Nat.le_of_eq rfl) (hb hby at_32) (fun _ _ => ⟨rfl, e1, (by decide : 0 + 0 ≤ _), (by decide : 0 + 0 ≤ _)⟩)
  dsimp only [Pt.U, Pt.locs, Pt.cells, Pt.slots] at X2 l2 y2 z2 st2 hQ2
  subst l2 y2 z2
  obtain ⟨rfl, N2q, e2⟩ := hQ2
  have N2 := Fr.app N1 N2q
  obtain ⟨fs, hr, hrun, hended, hW, hsame⟩ := X2.leave (v := some (.int (1 : Int32))) (fun h => by rw [Bd.returns] at h; cases h)
  refine ⟨_, _, pre0 _ ?_, hrun, hended, _, _, rfl, ?_, ⟨_, rfl⟩, hW, hsame.mono (by decide) (by decide)⟩
  · show Steps p.tables e below (s₁.setTop (mkF m 0 #[.val (.int p0), .unset, .unset, .unset] [])) _
    refine XS.iloadN X0.here hx rfl (hb hby at_0) rfl ?_
    show Steps p.tables e below (s₁.setTop (mkF m 1 #[.val (.int p0), .unset, .unset, .unset] [(.int p0)])) _
    refine X0.ldcInt hx hown (mvT hZ (hw _ (List.mem_of_getElem? (i := 0) rfl))) (g := (mkF m 1 #[.val (.int p0), .unset, .unset, .unset] [(.int p0)])) rfl (hb hby at_1) _ ?_
    show Steps p.tables e below (s₁.setTop (mkF m 3 #[.val (.int p0), .unset, .unset, .unset] [(.int (2147483647 : Int32)), (.int p0)])) _
    refine XS.iand X0.here hx rfl (hb hby at_3) rfl ?_
    show Steps p.tables e below (s₁.setTop (mkF m 4 #[.val (.int p0), .unset, .unset, .unset] [(.int (p0 &&& (2147483647 : Int32)))])) _
    refine XS.bipush X0.here hx rfl (hb hby at_4) ?_
    show Steps p.tables e below (s₁.setTop (mkF m 6 #[.val (.int p0), .unset, .unset, .unset] [(.int (9 : Int32)), (.int (p0 &&& (2147483647 : Int32)))])) _
    refine Jvm.RoadKit.iremM X0 hx rfl (hb hby at_6) rfl (by decide) ?_
    show Steps p.tables e below (s₁.setTop (mkF m 7 #[.val (.int p0), .unset, .unset, .unset] [(.int ((p0 &&& (2147483647 : Int32)) % (9 : Int32)))])) _
    rw [hp0]
    show Steps p.tables e below (s₁.setTop (mkF m 7 #[.val (.int p0), .unset, .unset, .unset] [(.int (6 : Int32))])) _
    refine XS.istoreN X0.here hx rfl (hb hby at_7) rfl (l' := #[.val (.int p0), .val (.int (6 : Int32)), .unset, .unset]) rfl ?_
    show Steps p.tables e below (s₁.setTop (mkF m 8 #[.val (.int p0), .val (.int (6 : Int32)), .unset, .unset] [])) _
    refine XS.iloadN X0.here hx rfl (hb hby at_8) rfl ?_
    show Steps p.tables e below (s₁.setTop (mkF m 9 #[.val (.int p0), .val (.int (6 : Int32)), .unset, .unset] [(.int (6 : Int32))])) _
    refine st1 _ ?_
    show Steps p.tables e below (T1.setTop (mkF m 12 #[.val (.int p0), .val (.int (6 : Int32)), .unset, .unset] [(.ref s_FORK)])) _
    refine XS.astoreN X1.here hx rfl (hb hby at_12) rfl rfl (l' := #[.val (.int p0), .val (.int (6 : Int32)), .val (.ref s_FORK), .unset]) rfl ?_
    show Steps p.tables e below (T1.setTop (mkF m 13 #[.val (.int p0), .val (.int (6 : Int32)), .val (.ref s_FORK), .unset] [])) _
    refine XS.iloadN X1.here hx rfl (hb hby at_13) rfl ?_
    show Steps p.tables e below (T1.setTop (mkF m 14 #[.val (.int p0), .val (.int (6 : Int32)), .val (.ref s_FORK), .unset] [(.int (6 : Int32))])) _
    refine XS.bipush X1.here hx rfl (hb hby at_14) ?_
    show Steps p.tables e below (T1.setTop (mkF m 16 #[.val (.int p0), .val (.int (6 : Int32)), .val (.ref s_FORK), .unset] [(.int (6 : Int32)), (.int (6 : Int32))])) _
    refine XS.icmpYes X1.here hx rfl (pc0 := 16) (pc' := 25) rfl (hb hby at_16) rfl (by decide +kernel) (by decide) (by decide) ?_
    show Steps p.tables e below (T1.setTop (mkF m 25 #[.val (.int p0), .val (.int (6 : Int32)), .val (.ref s_FORK), .unset] [])) _
    refine XS.iconst X1.here hx rfl (hb hby at_25) ?_
    show Steps p.tables e below (T1.setTop (mkF m 26 #[.val (.int p0), .val (.int (6 : Int32)), .val (.ref s_FORK), .unset] [(.int (1 : Int32))])) _
    refine XS.goto X1.here hx rfl (pc0 := 26) (pc' := 30) rfl (hb hby at_26) (by decide) (by decide) ?_
    show Steps p.tables e below (T1.setTop (mkF m 30 #[.val (.int p0), .val (.int (6 : Int32)), .val (.ref s_FORK), .unset] [(.int (1 : Int32))])) _
    refine XS.istoreN X1.here hx rfl (hb hby at_30) rfl (l' := #[.val (.int p0), .val (.int (6 : Int32)), .val (.ref s_FORK), .val (.int (1 : Int32))]) rfl ?_
    show Steps p.tables e below (T1.setTop (mkF m 31 #[.val (.int p0), .val (.int (6 : Int32)), .val (.ref s_FORK), .val (.int (1 : Int32))] [])) _
    refine XS.aloadN X1.here hx rfl (hb hby at_31) rfl rfl ?_
    show Steps p.tables e below (T1.setTop (mkF m 32 #[.val (.int p0), .val (.int (6 : Int32)), .val (.ref s_FORK), .val (.int (1 : Int32))] [(.ref s_FORK)])) _
    refine st2.trans ?_
    show Steps p.tables e below (T2.setTop (mkF m 35 #[.val (.int p0), .val (.int (6 : Int32)), .val (.ref s_FORK), .val (.int (1 : Int32))] [(.int (1 : Int32))])) _
    refine XS.iloadN X2.here hx rfl (hb hby at_35) rfl ?_
    show Steps p.tables e below (T2.setTop (mkF m 36 #[.val (.int p0), .val (.int (6 : Int32)), .val (.ref s_FORK), .val (.int (1 : Int32))] [(.int (1 : Int32)), (.int (1 : Int32))])) _
    refine XS.icmpNo X2.here hx rfl (hb hby at_36) rfl (by decide +kernel) ?_
    show Steps p.tables e below (T2.setTop (mkF m 39 #[.val (.int p0), .val (.int (6 : Int32)), .val (.ref s_FORK), .val (.int (1 : Int32))] [])) _
    refine XS.iconst X2.here hx rfl (hb hby at_39) ?_
    show Steps p.tables e below (T2.setTop (mkF m 40 #[.val (.int p0), .val (.int (6 : Int32)), .val (.ref s_FORK), .val (.int (1 : Int32))] [(.int (1 : Int32))])) _
    refine XS.goto X2.here hx rfl (pc0 := 40) (pc' := 44) rfl (hb hby at_40) (by decide) (by decide) ?_
    show Steps p.tables e below (T2.setTop (mkF m 44 #[.val (.int p0), .val (.int (6 : Int32)), .val (.ref s_FORK), .val (.int (1 : Int32))] [(.int (1 : Int32))])) _
    exact retN X2 hx (t := .boolean) Bd.returns (by simp) (hb hby at_44) hr
  · exact ⟨rfl, N2, e2⟩
set_option maxRecDepth 65536 in
set_option maxHeartbeats 40000000 in
theorem r21 (l : Launch) (Z : State) (a0 : Array Value) (hw : ∀ d ∈ tables_1, d.before a0 Z = true) (ws : List Jvm.Cond) (h0 : Heap) (n0 : Nat) (s_JUNCTION : Addr) (s_FORK : Addr) (s_JOIN : Addr) (s_CHOICE : Addr) (s_ENTRY_POINT : Addr) (s_EXIT_POINT : Addr) (s_SHALLOW_HISTORY : Addr) (s_DEEP_HISTORY : Addr) (s_TERMINATE : Addr) (K : Ctx Z h0 s_JUNCTION s_FORK s_JOIN s_CHOICE s_ENTRY_POINT s_EXIT_POINT s_SHALLOW_HISTORY s_DEEP_HISTORY s_TERMINATE) :
    MetFree l (⟨"com/example/regionwise/regionwise/core/PseudostateKindSpansRegionsPinLaw", "pick", "(I)Lcom/example/regionwise/regionwise/core/PseudostateKind;"⟩ : MethodName) (head1 (Jvm.Cond.code (⟨"com/example/regionwise/regionwise/core/PseudostateKindSpansRegionsPinLaw", "pick", "(I)Lcom/example/regionwise/regionwise/core/PseudostateKind;"⟩ : MethodName) method_2_code 1 (some (.object "com/example/regionwise/regionwise/core/PseudostateKind")) :: ws) ({ frames := 0, cells := 0, slots := 0, locals := 0 } : Room)) (fun a U => a = #[(.int (7 : Int32))] ∧ Z.Warmed39 U.vm ∧ U.heap = h0) (fun _ _ _ _ _ => True) (fun _ U o U' => ∃ v L, o = .returned v ∧ QV (.ref s_JOIN) h0 n0 v U'.heap L ∧ FrameEnd U o U' L ({ frames := 0, cells := 0, slots := 0, locals := 0 } : Room).cells ({ frames := 0, cells := 0, slots := 0, locals := 0 } : Room).slots) := by
  obtain ⟨S_JUNCTION, S_FORK, ne_FORK_JUNCTION, S_JOIN, ne_JOIN_JUNCTION, E_JUNCTION, S_CHOICE, ne_CHOICE_FORK, ne_CHOICE_JOIN, E_CHOICE, S_ENTRY_POINT, ne_ENTRY_POINT_FORK, ne_ENTRY_POINT_JOIN, E_ENTRY_POINT, S_EXIT_POINT, ne_EXIT_POINT_FORK, ne_EXIT_POINT_JOIN, E_EXIT_POINT, S_SHALLOW_HISTORY, ne_FORK_SHALLOW_HISTORY, ne_JOIN_SHALLOW_HISTORY, E_SHALLOW_HISTORY, S_DEEP_HISTORY, ne_DEEP_HISTORY_FORK, ne_DEEP_HISTORY_JOIN, E_DEEP_HISTORY, E_FORK, ne_FORK_JOIN, E_JOIN, S_TERMINATE, ne_FORK_TERMINATE, ne_JOIN_TERMINATE, E_TERMINATE⟩ := id K
  refine MetFree.of_bodySF (plainFor_of_name pn0) hisR ?_
  intro p e s m args below meth c s₁ Bd hml0 hP hK
  obtain ⟨rfl, hZ, hh⟩ := hP
  have hx := Bd.exec
  have hby := Bd.bytes
  have hml : c.maxLocals = 1 := hml0
  have hown : s.vm.findClass "com/example/regionwise/regionwise/core/PseudostateKindSpansRegionsPinLaw" = some m.cls := findClass_of_methodNamed Bd.named
  have X0 : Stand p l e ({ frames := 0, cells := 0, slots := 0, locals := 0 } : Room) s m #[(.int (7 : Int32))] below meth c s₁ [] 0 0 := Stand.of_body Bd
  have e0 : s₁.heap = h0 := by rw [← hh, Bd.state]; rfl
  have N0 := Fr.nil n0
  have pre0 : ∀ t, Steps p.tables e below (s₁.setTop (mkF m 0 #[.val (.int (7 : Int32))] [])) t → Steps p.tables e below (s₁.setTop (entryFrame m #[(.int (7 : Int32))] 1)) t := fun t k => castTop (by first | (simp [entryFrame, mkF, argsToLocals, Value.category]; done) | rfl) k
  obtain ⟨T1, X1, e1, st1⟩ := getS X0 hx hZ hown (host := "") (hw _ (List.mem_of_getElem? (i := 23) rfl)) Via.refl e0 S_JOIN (g := (mkF m 69 #[.val (.int (7 : Int32))] [])) rfl (hb hby d0_69)
  obtain ⟨fs, hr, hrun, hended, hW, hsame⟩ := X1.leave (v := some (.ref s_JOIN)) (fun h => by rw [Bd.returns] at h; cases h)
  refine ⟨_, _, pre0 _ ?_, hrun, hended, _, _, rfl, ?_, ⟨_, rfl⟩, hW, hsame.mono (by decide) (by decide)⟩
  · show Steps p.tables e below (s₁.setTop (mkF m 0 #[.val (.int (7 : Int32))] [])) _
    refine XS.iloadN X0.here hx rfl (hb hby d0_0) rfl ?_
    show Steps p.tables e below (s₁.setTop (mkF m 1 #[.val (.int (7 : Int32))] [(.int (7 : Int32))])) _
    refine XS.ifYes X0.here hx rfl (pc0 := 1) (pc' := 8) rfl (hb hby d0_1) rfl (by decide +kernel) (by decide) (by decide) ?_
    show Steps p.tables e below (s₁.setTop (mkF m 8 #[.val (.int (7 : Int32))] [])) _
    refine XS.iloadN X0.here hx rfl (hb hby d0_8) rfl ?_
    show Steps p.tables e below (s₁.setTop (mkF m 9 #[.val (.int (7 : Int32))] [(.int (7 : Int32))])) _
    refine XS.iconst X0.here hx rfl (hb hby d0_9) ?_
    show Steps p.tables e below (s₁.setTop (mkF m 10 #[.val (.int (7 : Int32))] [(.int (1 : Int32)), (.int (7 : Int32))])) _
    refine XS.icmpYes X0.here hx rfl (pc0 := 10) (pc' := 17) rfl (hb hby d0_10) rfl (by decide +kernel) (by decide) (by decide) ?_
    show Steps p.tables e below (s₁.setTop (mkF m 17 #[.val (.int (7 : Int32))] [])) _
    refine XS.iloadN X0.here hx rfl (hb hby d0_17) rfl ?_
    show Steps p.tables e below (s₁.setTop (mkF m 18 #[.val (.int (7 : Int32))] [(.int (7 : Int32))])) _
    refine XS.iconst X0.here hx rfl (hb hby d0_18) ?_
    show Steps p.tables e below (s₁.setTop (mkF m 19 #[.val (.int (7 : Int32))] [(.int (2 : Int32)), (.int (7 : Int32))])) _
    refine XS.icmpYes X0.here hx rfl (pc0 := 19) (pc' := 26) rfl (hb hby d0_19) rfl (by decide +kernel) (by decide) (by decide) ?_
    show Steps p.tables e below (s₁.setTop (mkF m 26 #[.val (.int (7 : Int32))] [])) _
    refine XS.iloadN X0.here hx rfl (hb hby d0_26) rfl ?_
    show Steps p.tables e below (s₁.setTop (mkF m 27 #[.val (.int (7 : Int32))] [(.int (7 : Int32))])) _
    refine XS.iconst X0.here hx rfl (hb hby d0_27) ?_
    show Steps p.tables e below (s₁.setTop (mkF m 28 #[.val (.int (7 : Int32))] [(.int (3 : Int32)), (.int (7 : Int32))])) _
    refine XS.icmpYes X0.here hx rfl (pc0 := 28) (pc' := 35) rfl (hb hby d0_28) rfl (by decide +kernel) (by decide) (by decide) ?_
    show Steps p.tables e below (s₁.setTop (mkF m 35 #[.val (.int (7 : Int32))] [])) _
    refine XS.iloadN X0.here hx rfl (hb hby d0_35) rfl ?_
    show Steps p.tables e below (s₁.setTop (mkF m 36 #[.val (.int (7 : Int32))] [(.int (7 : Int32))])) _
    refine XS.iconst X0.here hx rfl (hb hby d0_36) ?_
    show Steps p.tables e below (s₁.setTop (mkF m 37 #[.val (.int (7 : Int32))] [(.int (4 : Int32)), (.int (7 : Int32))])) _
    refine XS.icmpYes X0.here hx rfl (pc0 := 37) (pc' := 44) rfl (hb hby d0_37) rfl (by decide +kernel) (by decide) (by decide) ?_
    show Steps p.tables e below (s₁.setTop (mkF m 44 #[.val (.int (7 : Int32))] [])) _
    refine XS.iloadN X0.here hx rfl (hb hby d0_44) rfl ?_
    show Steps p.tables e below (s₁.setTop (mkF m 45 #[.val (.int (7 : Int32))] [(.int (7 : Int32))])) _
    refine XS.iconst X0.here hx rfl (hb hby d0_45) ?_
    show Steps p.tables e below (s₁.setTop (mkF m 46 #[.val (.int (7 : Int32))] [(.int (5 : Int32)), (.int (7 : Int32))])) _
    refine XS.icmpYes X0.here hx rfl (pc0 := 46) (pc' := 53) rfl (hb hby d0_46) rfl (by decide +kernel) (by decide) (by decide) ?_
    show Steps p.tables e below (s₁.setTop (mkF m 53 #[.val (.int (7 : Int32))] [])) _
    refine XS.iloadN X0.here hx rfl (hb hby d0_53) rfl ?_
    show Steps p.tables e below (s₁.setTop (mkF m 54 #[.val (.int (7 : Int32))] [(.int (7 : Int32))])) _
    refine XS.bipush X0.here hx rfl (hb hby d0_54) ?_
    show Steps p.tables e below (s₁.setTop (mkF m 56 #[.val (.int (7 : Int32))] [(.int (6 : Int32)), (.int (7 : Int32))])) _
    refine XS.icmpYes X0.here hx rfl (pc0 := 56) (pc' := 63) rfl (hb hby d0_56) rfl (by decide +kernel) (by decide) (by decide) ?_
    show Steps p.tables e below (s₁.setTop (mkF m 63 #[.val (.int (7 : Int32))] [])) _
    refine XS.iloadN X0.here hx rfl (hb hby d0_63) rfl ?_
    show Steps p.tables e below (s₁.setTop (mkF m 64 #[.val (.int (7 : Int32))] [(.int (7 : Int32))])) _
    refine XS.bipush X0.here hx rfl (hb hby d0_64) ?_
    show Steps p.tables e below (s₁.setTop (mkF m 66 #[.val (.int (7 : Int32))] [(.int (7 : Int32)), (.int (7 : Int32))])) _
    refine XS.icmpNo X0.here hx rfl (hb hby d0_66) rfl (by decide +kernel) ?_
    show Steps p.tables e below (s₁.setTop (mkF m 69 #[.val (.int (7 : Int32))] [])) _
    refine st1 _ ?_
    show Steps p.tables e below (T1.setTop (mkF m 72 #[.val (.int (7 : Int32))] [(.ref s_JOIN)])) _
    exact retOut X1 hx (i := .areturn) Bd.returns rfl (Or.inr (Or.inr (Or.inr (Or.inr ⟨rfl, rfl, rfl⟩)))) (hb hby d0_72) hr
  · exact ⟨rfl, N0, e1⟩
set_option maxRecDepth 65536 in
set_option maxHeartbeats 40000000 in
theorem r22 (l : Launch) (Z : State) (a0 : Array Value) (hw : ∀ d ∈ tables_1, d.before a0 Z = true) (ws : List Jvm.Cond) (h0 : Heap) (n0 : Nat) (s_JUNCTION : Addr) (s_FORK : Addr) (s_JOIN : Addr) (s_CHOICE : Addr) (s_ENTRY_POINT : Addr) (s_EXIT_POINT : Addr) (s_SHALLOW_HISTORY : Addr) (s_DEEP_HISTORY : Addr) (s_TERMINATE : Addr) (K : Ctx Z h0 s_JUNCTION s_FORK s_JOIN s_CHOICE s_ENTRY_POINT s_EXIT_POINT s_SHALLOW_HISTORY s_DEEP_HISTORY s_TERMINATE) :
    MetFree l (⟨"com/example/regionwise/regionwise/core/PseudostateKind", "spansRegions", "()Z"⟩ : MethodName) (head1 (Jvm.Cond.code (⟨"com/example/regionwise/regionwise/core/PseudostateKind", "spansRegions", "()Z"⟩ : MethodName) prog_62_method_8_code 1 (some .boolean) :: ws) ({ frames := 0, cells := 0, slots := 0, locals := 0 } : Room)) (fun a U => a = #[(.ref s_JOIN)] ∧ Z.Warmed39 U.vm ∧ U.heap = h0) (fun _ _ _ _ _ => True) (fun _ U o U' => ∃ v L, o = .returned v ∧ QV (.int (1 : Int32)) h0 n0 v U'.heap L ∧ FrameEnd U o U' L ({ frames := 0, cells := 0, slots := 0, locals := 0 } : Room).cells ({ frames := 0, cells := 0, slots := 0, locals := 0 } : Room).slots) := by
  obtain ⟨S_JUNCTION, S_FORK, ne_FORK_JUNCTION, S_JOIN, ne_JOIN_JUNCTION, E_JUNCTION, S_CHOICE, ne_CHOICE_FORK, ne_CHOICE_JOIN, E_CHOICE, S_ENTRY_POINT, ne_ENTRY_POINT_FORK, ne_ENTRY_POINT_JOIN, E_ENTRY_POINT, S_EXIT_POINT, ne_EXIT_POINT_FORK, ne_EXIT_POINT_JOIN, E_EXIT_POINT, S_SHALLOW_HISTORY, ne_FORK_SHALLOW_HISTORY, ne_JOIN_SHALLOW_HISTORY, E_SHALLOW_HISTORY, S_DEEP_HISTORY, ne_DEEP_HISTORY_FORK, ne_DEEP_HISTORY_JOIN, E_DEEP_HISTORY, E_FORK, ne_FORK_JOIN, E_JOIN, S_TERMINATE, ne_FORK_TERMINATE, ne_JOIN_TERMINATE, E_TERMINATE⟩ := id K
  refine MetFree.of_bodySF (plainFor_of_name pn1) hisR ?_
  intro p e s m args below meth c s₁ Bd hml0 hP hK
  obtain ⟨rfl, hZ, hh⟩ := hP
  have hx := Bd.exec
  have hby := Bd.bytes
  have hml : c.maxLocals = 1 := hml0
  have hown : s.vm.findClass "com/example/regionwise/regionwise/core/PseudostateKind" = some m.cls := findClass_of_methodNamed Bd.named
  have X0 : Stand p l e ({ frames := 0, cells := 0, slots := 0, locals := 0 } : Room) s m #[(.ref s_JOIN)] below meth c s₁ [] 0 0 := Stand.of_body Bd
  have e0 : s₁.heap = h0 := by rw [← hh, Bd.state]; rfl
  have N0 := Fr.nil n0
  have pre0 : ∀ t, Steps p.tables e below (s₁.setTop (mkF m 0 #[.val (.ref s_JOIN)] [])) t → Steps p.tables e below (s₁.setTop (entryFrame m #[(.ref s_JOIN)] 1)) t := fun t k => castTop (by first | (simp [entryFrame, mkF, argsToLocals, Value.category]; done) | rfl) k
  obtain ⟨T1, X1, e1, st1⟩ := getS X0 hx hZ hown (host := "") (hw _ (List.mem_of_getElem? (i := 13) rfl)) Via.refl e0 S_FORK (g := (mkF m 1 #[.val (.ref s_JOIN)] [(.ref s_JOIN)])) rfl (hb hby d1_1)
  obtain ⟨T2, X2, e2, st2⟩ := getS X1 hx hZ hown (host := "") (hw _ (List.mem_of_getElem? (i := 15) rfl)) Via.refl e1 S_JOIN (g := (mkF m 8 #[.val (.ref s_JOIN)] [(.ref s_JOIN)])) rfl (hb hby d1_8)
  obtain ⟨fs, hr, hrun, hended, hW, hsame⟩ := X2.leave (v := some (.int (1 : Int32))) (fun h => by rw [Bd.returns] at h; cases h)
  refine ⟨_, _, pre0 _ ?_, hrun, hended, _, _, rfl, ?_, ⟨_, rfl⟩, hW, hsame.mono (by decide) (by decide)⟩
  · show Steps p.tables e below (s₁.setTop (mkF m 0 #[.val (.ref s_JOIN)] [])) _
    refine XS.aloadN X0.here hx rfl (hb hby d1_0) rfl rfl ?_
    show Steps p.tables e below (s₁.setTop (mkF m 1 #[.val (.ref s_JOIN)] [(.ref s_JOIN)])) _
    refine st1 _ ?_
    show Steps p.tables e below (T1.setTop (mkF m 4 #[.val (.ref s_JOIN)] [(.ref s_FORK), (.ref s_JOIN)])) _
    refine Jvm.RoadKit.acmp (g := (mkF m 4 #[.val (.ref s_JOIN)] [(.ref s_FORK), (.ref s_JOIN)])) X1 hx rfl rfl rfl (pc0 := 4) (pc' := 7) (same := false) rfl (hb hby d1_4) rfl (decide_eq_false fun q => (Ne.symm ne_FORK_JOIN) (Value.ref.inj q)) (by decide) (by decide) ?_
    show Steps p.tables e below (T1.setTop (mkF m 7 #[.val (.ref s_JOIN)] [])) _
    refine XS.aloadN X1.here hx rfl (hb hby d1_7) rfl rfl ?_
    show Steps p.tables e below (T1.setTop (mkF m 8 #[.val (.ref s_JOIN)] [(.ref s_JOIN)])) _
    refine st2 _ ?_
    show Steps p.tables e below (T2.setTop (mkF m 11 #[.val (.ref s_JOIN)] [(.ref s_JOIN), (.ref s_JOIN)])) _
    refine Jvm.RoadKit.acmp (g := (mkF m 11 #[.val (.ref s_JOIN)] [(.ref s_JOIN), (.ref s_JOIN)])) X2 hx rfl rfl rfl (pc0 := 11) (pc' := 14) (same := true) rfl (hb hby d1_11) rfl (decide_eq_true rfl) (by decide) (by decide) ?_
    show Steps p.tables e below (T2.setTop (mkF m 14 #[.val (.ref s_JOIN)] [])) _
    refine XS.iconst X2.here hx rfl (hb hby d1_14) ?_
    show Steps p.tables e below (T2.setTop (mkF m 15 #[.val (.ref s_JOIN)] [(.int (1 : Int32))])) _
    refine XS.goto X2.here hx rfl (pc0 := 15) (pc' := 19) rfl (hb hby d1_15) (by decide) (by decide) ?_
    show Steps p.tables e below (T2.setTop (mkF m 19 #[.val (.ref s_JOIN)] [(.int (1 : Int32))])) _
    exact retN X2 hx (t := .boolean) Bd.returns (by simp) (hb hby d1_19) hr
  · exact ⟨rfl, N0, e2⟩
set_option maxRecDepth 65536 in
set_option maxHeartbeats 40000000 in
theorem law_k7 (l : Launch) (Z : State) (a0 : Array Value) (hw : ∀ d ∈ tables_1, d.before a0 Z = true) (ws : List Jvm.Cond) (h0 : Heap) (n0 : Nat) (s_JUNCTION : Addr) (s_FORK : Addr) (s_JOIN : Addr) (s_CHOICE : Addr) (s_ENTRY_POINT : Addr) (s_EXIT_POINT : Addr) (s_SHALLOW_HISTORY : Addr) (s_DEEP_HISTORY : Addr) (s_TERMINATE : Addr) (K : Ctx Z h0 s_JUNCTION s_FORK s_JOIN s_CHOICE s_ENTRY_POINT s_EXIT_POINT s_SHALLOW_HISTORY s_DEEP_HISTORY s_TERMINATE) (p0 : Int32) (hp0 : ((p0 &&& (2147483647 : Int32)) % (9 : Int32)) = (7 : Int32)) :
    MetFree l x (head1 (Jvm.Cond.code x code maxLocals ret :: ws) room_1) (fun a U => a = #[(.int p0)] ∧ Z.Warmed39 U.vm ∧ U.heap = h0) (fun _ _ _ _ _ => True) (fun _ U o U' => ∃ v L, o = .returned v ∧ QV (.int (1 : Int32)) h0 n0 v U'.heap L ∧ FrameEnd U o U' L room_1.cells room_1.slots) := by
  obtain ⟨S_JUNCTION, S_FORK, ne_FORK_JUNCTION, S_JOIN, ne_JOIN_JUNCTION, E_JUNCTION, S_CHOICE, ne_CHOICE_FORK, ne_CHOICE_JOIN, E_CHOICE, S_ENTRY_POINT, ne_ENTRY_POINT_FORK, ne_ENTRY_POINT_JOIN, E_ENTRY_POINT, S_EXIT_POINT, ne_EXIT_POINT_FORK, ne_EXIT_POINT_JOIN, E_EXIT_POINT, S_SHALLOW_HISTORY, ne_FORK_SHALLOW_HISTORY, ne_JOIN_SHALLOW_HISTORY, E_SHALLOW_HISTORY, S_DEEP_HISTORY, ne_DEEP_HISTORY_FORK, ne_DEEP_HISTORY_JOIN, E_DEEP_HISTORY, E_FORK, ne_FORK_JOIN, E_JOIN, S_TERMINATE, ne_FORK_TERMINATE, ne_JOIN_TERMINATE, E_TERMINATE⟩ := id K
  refine MetFree.of_bodySF (plainFor_of_name pn2) hisR ?_
  intro p e s m args below meth c s₁ Bd hml0 hP hK
  obtain ⟨rfl, hZ, hh⟩ := hP
  have hx := Bd.exec
  have hby := Bd.bytes
  have hml : c.maxLocals = 4 := hml0
  have hown : s.vm.findClass "com/example/regionwise/regionwise/core/PseudostateKindSpansRegionsPinLaw" = some m.cls := findClass_of_methodNamed Bd.named
  have X0 : Stand p l e room_1 s m #[(.int p0)] below meth c s₁ [] 0 0 := Stand.of_body Bd
  have e0 : s₁.heap = h0 := by rw [← hh, Bd.state]; rfl
  have N0 := Fr.nil n0
  have pre0 : ∀ t, Steps p.tables e below (s₁.setTop (mkF m 0 #[.val (.int p0), .unset, .unset, .unset] [])) t → Steps p.tables e below (s₁.setTop (entryFrame m #[(.int p0)] maxLocals)) t := fun t k => castTop (by first | (simp [entryFrame, mkF, argsToLocals, Value.category, maxLocals]; done) | rfl) k
  obtain ⟨_, _, ⟨T1, L1, k1, n1⟩, -, X1, ⟨Lc1, hQ1, l1, y1, z1⟩, st1⟩ := Jvm.LawKit.callS X0 hx (y := (⟨"com/example/regionwise/regionwise/core/PseudostateKindSpansRegionsPinLaw", "pick", "(I)Lcom/example/regionwise/regionwise/core/PseudostateKind;"⟩ : MethodName)) hown (mvT hZ (hw _ (List.mem_of_getElem? (i := 1) rfl))) (mvT hZ (hw _ (List.mem_of_getElem? (i := 2) rfl))) (mvT hZ (hw _ (List.mem_of_getElem? (i := 3) rfl))) (mvT hZ (hw _ (List.mem_of_getElem? (i := 4) rfl))) (by decide) (backOf (W := 0) (r21 l Z a0 hw [] h0 n0 s_JUNCTION s_FORK s_JOIN s_CHOICE s_ENTRY_POINT s_EXIT_POINT s_SHALLOW_HISTORY s_DEEP_HISTORY s_TERMINATE K) hZ (hw _ (List.mem_of_getElem? (i := 4) rfl)) (hw _ (List.mem_of_getElem? (i := 3) rfl)) (by decide) (by decide)) (g := (mkF m 9 #[.val (.int p0), .val (.int (7 : Int32)), .unset, .unset] [(.int (7 : Int32))])) rfl (by rw [hml]; rfl) (argsL := [(.int (7 : Int32))]) (rest := []) (lenOf pd0 rfl) rfl (by show 2 * 0 + _ ≤ _; exact Nat.le_of_eq rfl) (hb hby at_9) (fun _ _ => ⟨rfl, e0, (by decide : 0 + 0 ≤ _), (by decide : 0 + 0 ≤ _)⟩)
  dsimp only [Pt.U, Pt.locs, Pt.cells, Pt.slots] at X1 l1 y1 z1 st1 hQ1
  subst l1 y1 z1
  obtain ⟨rfl, N1q, e1⟩ := hQ1
  have N1 := Fr.app N0 N1q
  obtain ⟨cq2, kq2, q2a, q2b, q2c⟩ := isOf hZ e1 E_JOIN
  obtain ⟨_, _, ⟨T2, L2, k2, n2⟩, -, X2, ⟨Lc2, hQ2, l2, y2, z2⟩, st2⟩ := X1.virtualBack hx (y := (⟨"com/example/regionwise/regionwise/core/PseudostateKind", "spansRegions", "()Z"⟩ : MethodName)) (z := (⟨"com/example/regionwise/regionwise/core/PseudostateKind", "spansRegions", "()Z"⟩ : MethodName)) hown (mvT hZ (hw _ (List.mem_of_getElem? (i := 8) rfl))) (mvT hZ (hw _ (List.mem_of_getElem? (i := 9) rfl))) (notFace_of_selects (args := #[]) (mvT hZ (hw _ (List.mem_of_getElem? (i := 11) rfl)))) (mvT hZ (hw _ (List.mem_of_getElem? (i := 11) rfl))) (mvT hZ (hw _ (List.mem_of_getElem? (i := 10) rfl))) (by decide) (backOf (W := 0) (r22 l Z a0 hw [] h0 n0 s_JUNCTION s_FORK s_JOIN s_CHOICE s_ENTRY_POINT s_EXIT_POINT s_SHALLOW_HISTORY s_DEEP_HISTORY s_TERMINATE K) hZ (hw _ (List.mem_of_getElem? (i := 12) rfl)) (hw _ (List.mem_of_getElem? (i := 6) rfl)) (by decide) (by decide)) q2a q2c (g := (mkF m 32 #[.val (.int p0), .val (.int (7 : Int32)), .val (.ref s_JOIN), .val (.int (1 : Int32))] [(.ref s_JOIN)])) rfl (by rw [hml]; rfl) (Steps.refl _) (argsL := []) (rest := []) (lenOf pd1 rfl) rfl (by show 2 * 0 + _ ≤ _; exact Nat.le_of_eq rfl) (hb hby at_32) (fun _ _ => ⟨rfl, e1, (by decide : 0 + 0 ≤ _), (by decide : 0 + 0 ≤ _)⟩)
  dsimp only [Pt.U, Pt.locs, Pt.cells, Pt.slots] at X2 l2 y2 z2 st2 hQ2
  subst l2 y2 z2
  obtain ⟨rfl, N2q, e2⟩ := hQ2
  have N2 := Fr.app N1 N2q
  obtain ⟨fs, hr, hrun, hended, hW, hsame⟩ := X2.leave (v := some (.int (1 : Int32))) (fun h => by rw [Bd.returns] at h; cases h)
  refine ⟨_, _, pre0 _ ?_, hrun, hended, _, _, rfl, ?_, ⟨_, rfl⟩, hW, hsame.mono (by decide) (by decide)⟩
  · show Steps p.tables e below (s₁.setTop (mkF m 0 #[.val (.int p0), .unset, .unset, .unset] [])) _
    refine XS.iloadN X0.here hx rfl (hb hby at_0) rfl ?_
    show Steps p.tables e below (s₁.setTop (mkF m 1 #[.val (.int p0), .unset, .unset, .unset] [(.int p0)])) _
    refine X0.ldcInt hx hown (mvT hZ (hw _ (List.mem_of_getElem? (i := 0) rfl))) (g := (mkF m 1 #[.val (.int p0), .unset, .unset, .unset] [(.int p0)])) rfl (hb hby at_1) _ ?_
    show Steps p.tables e below (s₁.setTop (mkF m 3 #[.val (.int p0), .unset, .unset, .unset] [(.int (2147483647 : Int32)), (.int p0)])) _
    refine XS.iand X0.here hx rfl (hb hby at_3) rfl ?_
    show Steps p.tables e below (s₁.setTop (mkF m 4 #[.val (.int p0), .unset, .unset, .unset] [(.int (p0 &&& (2147483647 : Int32)))])) _
    refine XS.bipush X0.here hx rfl (hb hby at_4) ?_
    show Steps p.tables e below (s₁.setTop (mkF m 6 #[.val (.int p0), .unset, .unset, .unset] [(.int (9 : Int32)), (.int (p0 &&& (2147483647 : Int32)))])) _
    refine Jvm.RoadKit.iremM X0 hx rfl (hb hby at_6) rfl (by decide) ?_
    show Steps p.tables e below (s₁.setTop (mkF m 7 #[.val (.int p0), .unset, .unset, .unset] [(.int ((p0 &&& (2147483647 : Int32)) % (9 : Int32)))])) _
    rw [hp0]
    show Steps p.tables e below (s₁.setTop (mkF m 7 #[.val (.int p0), .unset, .unset, .unset] [(.int (7 : Int32))])) _
    refine XS.istoreN X0.here hx rfl (hb hby at_7) rfl (l' := #[.val (.int p0), .val (.int (7 : Int32)), .unset, .unset]) rfl ?_
    show Steps p.tables e below (s₁.setTop (mkF m 8 #[.val (.int p0), .val (.int (7 : Int32)), .unset, .unset] [])) _
    refine XS.iloadN X0.here hx rfl (hb hby at_8) rfl ?_
    show Steps p.tables e below (s₁.setTop (mkF m 9 #[.val (.int p0), .val (.int (7 : Int32)), .unset, .unset] [(.int (7 : Int32))])) _
    refine st1 _ ?_
    show Steps p.tables e below (T1.setTop (mkF m 12 #[.val (.int p0), .val (.int (7 : Int32)), .unset, .unset] [(.ref s_JOIN)])) _
    refine XS.astoreN X1.here hx rfl (hb hby at_12) rfl rfl (l' := #[.val (.int p0), .val (.int (7 : Int32)), .val (.ref s_JOIN), .unset]) rfl ?_
    show Steps p.tables e below (T1.setTop (mkF m 13 #[.val (.int p0), .val (.int (7 : Int32)), .val (.ref s_JOIN), .unset] [])) _
    refine XS.iloadN X1.here hx rfl (hb hby at_13) rfl ?_
    show Steps p.tables e below (T1.setTop (mkF m 14 #[.val (.int p0), .val (.int (7 : Int32)), .val (.ref s_JOIN), .unset] [(.int (7 : Int32))])) _
    refine XS.bipush X1.here hx rfl (hb hby at_14) ?_
    show Steps p.tables e below (T1.setTop (mkF m 16 #[.val (.int p0), .val (.int (7 : Int32)), .val (.ref s_JOIN), .unset] [(.int (6 : Int32)), (.int (7 : Int32))])) _
    refine XS.icmpNo X1.here hx rfl (hb hby at_16) rfl (by decide +kernel) ?_
    show Steps p.tables e below (T1.setTop (mkF m 19 #[.val (.int p0), .val (.int (7 : Int32)), .val (.ref s_JOIN), .unset] [])) _
    refine XS.iloadN X1.here hx rfl (hb hby at_19) rfl ?_
    show Steps p.tables e below (T1.setTop (mkF m 20 #[.val (.int p0), .val (.int (7 : Int32)), .val (.ref s_JOIN), .unset] [(.int (7 : Int32))])) _
    refine XS.bipush X1.here hx rfl (hb hby at_20) ?_
    show Steps p.tables e below (T1.setTop (mkF m 22 #[.val (.int p0), .val (.int (7 : Int32)), .val (.ref s_JOIN), .unset] [(.int (7 : Int32)), (.int (7 : Int32))])) _
    refine XS.icmpNo X1.here hx rfl (hb hby at_22) rfl (by decide +kernel) ?_
    show Steps p.tables e below (T1.setTop (mkF m 25 #[.val (.int p0), .val (.int (7 : Int32)), .val (.ref s_JOIN), .unset] [])) _
    refine XS.iconst X1.here hx rfl (hb hby at_25) ?_
    show Steps p.tables e below (T1.setTop (mkF m 26 #[.val (.int p0), .val (.int (7 : Int32)), .val (.ref s_JOIN), .unset] [(.int (1 : Int32))])) _
    refine XS.goto X1.here hx rfl (pc0 := 26) (pc' := 30) rfl (hb hby at_26) (by decide) (by decide) ?_
    show Steps p.tables e below (T1.setTop (mkF m 30 #[.val (.int p0), .val (.int (7 : Int32)), .val (.ref s_JOIN), .unset] [(.int (1 : Int32))])) _
    refine XS.istoreN X1.here hx rfl (hb hby at_30) rfl (l' := #[.val (.int p0), .val (.int (7 : Int32)), .val (.ref s_JOIN), .val (.int (1 : Int32))]) rfl ?_
    show Steps p.tables e below (T1.setTop (mkF m 31 #[.val (.int p0), .val (.int (7 : Int32)), .val (.ref s_JOIN), .val (.int (1 : Int32))] [])) _
    refine XS.aloadN X1.here hx rfl (hb hby at_31) rfl rfl ?_
    show Steps p.tables e below (T1.setTop (mkF m 32 #[.val (.int p0), .val (.int (7 : Int32)), .val (.ref s_JOIN), .val (.int (1 : Int32))] [(.ref s_JOIN)])) _
    refine st2.trans ?_
    show Steps p.tables e below (T2.setTop (mkF m 35 #[.val (.int p0), .val (.int (7 : Int32)), .val (.ref s_JOIN), .val (.int (1 : Int32))] [(.int (1 : Int32))])) _
    refine XS.iloadN X2.here hx rfl (hb hby at_35) rfl ?_
    show Steps p.tables e below (T2.setTop (mkF m 36 #[.val (.int p0), .val (.int (7 : Int32)), .val (.ref s_JOIN), .val (.int (1 : Int32))] [(.int (1 : Int32)), (.int (1 : Int32))])) _
    refine XS.icmpNo X2.here hx rfl (hb hby at_36) rfl (by decide +kernel) ?_
    show Steps p.tables e below (T2.setTop (mkF m 39 #[.val (.int p0), .val (.int (7 : Int32)), .val (.ref s_JOIN), .val (.int (1 : Int32))] [])) _
    refine XS.iconst X2.here hx rfl (hb hby at_39) ?_
    show Steps p.tables e below (T2.setTop (mkF m 40 #[.val (.int p0), .val (.int (7 : Int32)), .val (.ref s_JOIN), .val (.int (1 : Int32))] [(.int (1 : Int32))])) _
    refine XS.goto X2.here hx rfl (pc0 := 40) (pc' := 44) rfl (hb hby at_40) (by decide) (by decide) ?_
    show Steps p.tables e below (T2.setTop (mkF m 44 #[.val (.int p0), .val (.int (7 : Int32)), .val (.ref s_JOIN), .val (.int (1 : Int32))] [(.int (1 : Int32))])) _
    exact retN X2 hx (t := .boolean) Bd.returns (by simp) (hb hby at_44) hr
  · exact ⟨rfl, N2, e2⟩
set_option maxRecDepth 65536 in
set_option maxHeartbeats 40000000 in
theorem r24 (l : Launch) (Z : State) (a0 : Array Value) (hw : ∀ d ∈ tables_1, d.before a0 Z = true) (ws : List Jvm.Cond) (h0 : Heap) (n0 : Nat) (s_JUNCTION : Addr) (s_FORK : Addr) (s_JOIN : Addr) (s_CHOICE : Addr) (s_ENTRY_POINT : Addr) (s_EXIT_POINT : Addr) (s_SHALLOW_HISTORY : Addr) (s_DEEP_HISTORY : Addr) (s_TERMINATE : Addr) (K : Ctx Z h0 s_JUNCTION s_FORK s_JOIN s_CHOICE s_ENTRY_POINT s_EXIT_POINT s_SHALLOW_HISTORY s_DEEP_HISTORY s_TERMINATE) :
    MetFree l (⟨"com/example/regionwise/regionwise/core/PseudostateKindSpansRegionsPinLaw", "pick", "(I)Lcom/example/regionwise/regionwise/core/PseudostateKind;"⟩ : MethodName) (head1 (Jvm.Cond.code (⟨"com/example/regionwise/regionwise/core/PseudostateKindSpansRegionsPinLaw", "pick", "(I)Lcom/example/regionwise/regionwise/core/PseudostateKind;"⟩ : MethodName) method_2_code 1 (some (.object "com/example/regionwise/regionwise/core/PseudostateKind")) :: ws) ({ frames := 0, cells := 0, slots := 0, locals := 0 } : Room)) (fun a U => a = #[(.int (8 : Int32))] ∧ Z.Warmed39 U.vm ∧ U.heap = h0) (fun _ _ _ _ _ => True) (fun _ U o U' => ∃ v L, o = .returned v ∧ QV (.ref s_TERMINATE) h0 n0 v U'.heap L ∧ FrameEnd U o U' L ({ frames := 0, cells := 0, slots := 0, locals := 0 } : Room).cells ({ frames := 0, cells := 0, slots := 0, locals := 0 } : Room).slots) := by
  obtain ⟨S_JUNCTION, S_FORK, ne_FORK_JUNCTION, S_JOIN, ne_JOIN_JUNCTION, E_JUNCTION, S_CHOICE, ne_CHOICE_FORK, ne_CHOICE_JOIN, E_CHOICE, S_ENTRY_POINT, ne_ENTRY_POINT_FORK, ne_ENTRY_POINT_JOIN, E_ENTRY_POINT, S_EXIT_POINT, ne_EXIT_POINT_FORK, ne_EXIT_POINT_JOIN, E_EXIT_POINT, S_SHALLOW_HISTORY, ne_FORK_SHALLOW_HISTORY, ne_JOIN_SHALLOW_HISTORY, E_SHALLOW_HISTORY, S_DEEP_HISTORY, ne_DEEP_HISTORY_FORK, ne_DEEP_HISTORY_JOIN, E_DEEP_HISTORY, E_FORK, ne_FORK_JOIN, E_JOIN, S_TERMINATE, ne_FORK_TERMINATE, ne_JOIN_TERMINATE, E_TERMINATE⟩ := id K
  refine MetFree.of_bodySF (plainFor_of_name pn0) hisR ?_
  intro p e s m args below meth c s₁ Bd hml0 hP hK
  obtain ⟨rfl, hZ, hh⟩ := hP
  have hx := Bd.exec
  have hby := Bd.bytes
  have hml : c.maxLocals = 1 := hml0
  have hown : s.vm.findClass "com/example/regionwise/regionwise/core/PseudostateKindSpansRegionsPinLaw" = some m.cls := findClass_of_methodNamed Bd.named
  have X0 : Stand p l e ({ frames := 0, cells := 0, slots := 0, locals := 0 } : Room) s m #[(.int (8 : Int32))] below meth c s₁ [] 0 0 := Stand.of_body Bd
  have e0 : s₁.heap = h0 := by rw [← hh, Bd.state]; rfl
  have N0 := Fr.nil n0
  have pre0 : ∀ t, Steps p.tables e below (s₁.setTop (mkF m 0 #[.val (.int (8 : Int32))] [])) t → Steps p.tables e below (s₁.setTop (entryFrame m #[(.int (8 : Int32))] 1)) t := fun t k => castTop (by first | (simp [entryFrame, mkF, argsToLocals, Value.category]; done) | rfl) k
  obtain ⟨T1, X1, e1, st1⟩ := getS X0 hx hZ hown (host := "") (hw _ (List.mem_of_getElem? (i := 26) rfl)) Via.refl e0 S_TERMINATE (g := (mkF m 73 #[.val (.int (8 : Int32))] [])) rfl (hb hby d0_73)
  obtain ⟨fs, hr, hrun, hended, hW, hsame⟩ := X1.leave (v := some (.ref s_TERMINATE)) (fun h => by rw [Bd.returns] at h; cases h)
  refine ⟨_, _, pre0 _ ?_, hrun, hended, _, _, rfl, ?_, ⟨_, rfl⟩, hW, hsame.mono (by decide) (by decide)⟩
  · show Steps p.tables e below (s₁.setTop (mkF m 0 #[.val (.int (8 : Int32))] [])) _
    refine XS.iloadN X0.here hx rfl (hb hby d0_0) rfl ?_
    show Steps p.tables e below (s₁.setTop (mkF m 1 #[.val (.int (8 : Int32))] [(.int (8 : Int32))])) _
    refine XS.ifYes X0.here hx rfl (pc0 := 1) (pc' := 8) rfl (hb hby d0_1) rfl (by decide +kernel) (by decide) (by decide) ?_
    show Steps p.tables e below (s₁.setTop (mkF m 8 #[.val (.int (8 : Int32))] [])) _
    refine XS.iloadN X0.here hx rfl (hb hby d0_8) rfl ?_
    show Steps p.tables e below (s₁.setTop (mkF m 9 #[.val (.int (8 : Int32))] [(.int (8 : Int32))])) _
    refine XS.iconst X0.here hx rfl (hb hby d0_9) ?_
    show Steps p.tables e below (s₁.setTop (mkF m 10 #[.val (.int (8 : Int32))] [(.int (1 : Int32)), (.int (8 : Int32))])) _
    refine XS.icmpYes X0.here hx rfl (pc0 := 10) (pc' := 17) rfl (hb hby d0_10) rfl (by decide +kernel) (by decide) (by decide) ?_
    show Steps p.tables e below (s₁.setTop (mkF m 17 #[.val (.int (8 : Int32))] [])) _
    refine XS.iloadN X0.here hx rfl (hb hby d0_17) rfl ?_
    show Steps p.tables e below (s₁.setTop (mkF m 18 #[.val (.int (8 : Int32))] [(.int (8 : Int32))])) _
    refine XS.iconst X0.here hx rfl (hb hby d0_18) ?_
    show Steps p.tables e below (s₁.setTop (mkF m 19 #[.val (.int (8 : Int32))] [(.int (2 : Int32)), (.int (8 : Int32))])) _
    refine XS.icmpYes X0.here hx rfl (pc0 := 19) (pc' := 26) rfl (hb hby d0_19) rfl (by decide +kernel) (by decide) (by decide) ?_
    show Steps p.tables e below (s₁.setTop (mkF m 26 #[.val (.int (8 : Int32))] [])) _
    refine XS.iloadN X0.here hx rfl (hb hby d0_26) rfl ?_
    show Steps p.tables e below (s₁.setTop (mkF m 27 #[.val (.int (8 : Int32))] [(.int (8 : Int32))])) _
    refine XS.iconst X0.here hx rfl (hb hby d0_27) ?_
    show Steps p.tables e below (s₁.setTop (mkF m 28 #[.val (.int (8 : Int32))] [(.int (3 : Int32)), (.int (8 : Int32))])) _
    refine XS.icmpYes X0.here hx rfl (pc0 := 28) (pc' := 35) rfl (hb hby d0_28) rfl (by decide +kernel) (by decide) (by decide) ?_
    show Steps p.tables e below (s₁.setTop (mkF m 35 #[.val (.int (8 : Int32))] [])) _
    refine XS.iloadN X0.here hx rfl (hb hby d0_35) rfl ?_
    show Steps p.tables e below (s₁.setTop (mkF m 36 #[.val (.int (8 : Int32))] [(.int (8 : Int32))])) _
    refine XS.iconst X0.here hx rfl (hb hby d0_36) ?_
    show Steps p.tables e below (s₁.setTop (mkF m 37 #[.val (.int (8 : Int32))] [(.int (4 : Int32)), (.int (8 : Int32))])) _
    refine XS.icmpYes X0.here hx rfl (pc0 := 37) (pc' := 44) rfl (hb hby d0_37) rfl (by decide +kernel) (by decide) (by decide) ?_
    show Steps p.tables e below (s₁.setTop (mkF m 44 #[.val (.int (8 : Int32))] [])) _
    refine XS.iloadN X0.here hx rfl (hb hby d0_44) rfl ?_
    show Steps p.tables e below (s₁.setTop (mkF m 45 #[.val (.int (8 : Int32))] [(.int (8 : Int32))])) _
    refine XS.iconst X0.here hx rfl (hb hby d0_45) ?_
    show Steps p.tables e below (s₁.setTop (mkF m 46 #[.val (.int (8 : Int32))] [(.int (5 : Int32)), (.int (8 : Int32))])) _
    refine XS.icmpYes X0.here hx rfl (pc0 := 46) (pc' := 53) rfl (hb hby d0_46) rfl (by decide +kernel) (by decide) (by decide) ?_
    show Steps p.tables e below (s₁.setTop (mkF m 53 #[.val (.int (8 : Int32))] [])) _
    refine XS.iloadN X0.here hx rfl (hb hby d0_53) rfl ?_
    show Steps p.tables e below (s₁.setTop (mkF m 54 #[.val (.int (8 : Int32))] [(.int (8 : Int32))])) _
    refine XS.bipush X0.here hx rfl (hb hby d0_54) ?_
    show Steps p.tables e below (s₁.setTop (mkF m 56 #[.val (.int (8 : Int32))] [(.int (6 : Int32)), (.int (8 : Int32))])) _
    refine XS.icmpYes X0.here hx rfl (pc0 := 56) (pc' := 63) rfl (hb hby d0_56) rfl (by decide +kernel) (by decide) (by decide) ?_
    show Steps p.tables e below (s₁.setTop (mkF m 63 #[.val (.int (8 : Int32))] [])) _
    refine XS.iloadN X0.here hx rfl (hb hby d0_63) rfl ?_
    show Steps p.tables e below (s₁.setTop (mkF m 64 #[.val (.int (8 : Int32))] [(.int (8 : Int32))])) _
    refine XS.bipush X0.here hx rfl (hb hby d0_64) ?_
    show Steps p.tables e below (s₁.setTop (mkF m 66 #[.val (.int (8 : Int32))] [(.int (7 : Int32)), (.int (8 : Int32))])) _
    refine XS.icmpYes X0.here hx rfl (pc0 := 66) (pc' := 73) rfl (hb hby d0_66) rfl (by decide +kernel) (by decide) (by decide) ?_
    show Steps p.tables e below (s₁.setTop (mkF m 73 #[.val (.int (8 : Int32))] [])) _
    refine st1 _ ?_
    show Steps p.tables e below (T1.setTop (mkF m 76 #[.val (.int (8 : Int32))] [(.ref s_TERMINATE)])) _
    exact retOut X1 hx (i := .areturn) Bd.returns rfl (Or.inr (Or.inr (Or.inr (Or.inr ⟨rfl, rfl, rfl⟩)))) (hb hby d0_76) hr
  · exact ⟨rfl, N0, e1⟩
set_option maxRecDepth 65536 in
set_option maxHeartbeats 40000000 in
theorem r25 (l : Launch) (Z : State) (a0 : Array Value) (hw : ∀ d ∈ tables_1, d.before a0 Z = true) (ws : List Jvm.Cond) (h0 : Heap) (n0 : Nat) (s_JUNCTION : Addr) (s_FORK : Addr) (s_JOIN : Addr) (s_CHOICE : Addr) (s_ENTRY_POINT : Addr) (s_EXIT_POINT : Addr) (s_SHALLOW_HISTORY : Addr) (s_DEEP_HISTORY : Addr) (s_TERMINATE : Addr) (K : Ctx Z h0 s_JUNCTION s_FORK s_JOIN s_CHOICE s_ENTRY_POINT s_EXIT_POINT s_SHALLOW_HISTORY s_DEEP_HISTORY s_TERMINATE) :
    MetFree l (⟨"com/example/regionwise/regionwise/core/PseudostateKind", "spansRegions", "()Z"⟩ : MethodName) (head1 (Jvm.Cond.code (⟨"com/example/regionwise/regionwise/core/PseudostateKind", "spansRegions", "()Z"⟩ : MethodName) prog_62_method_8_code 1 (some .boolean) :: ws) ({ frames := 0, cells := 0, slots := 0, locals := 0 } : Room)) (fun a U => a = #[(.ref s_TERMINATE)] ∧ Z.Warmed39 U.vm ∧ U.heap = h0) (fun _ _ _ _ _ => True) (fun _ U o U' => ∃ v L, o = .returned v ∧ QV (.int (0 : Int32)) h0 n0 v U'.heap L ∧ FrameEnd U o U' L ({ frames := 0, cells := 0, slots := 0, locals := 0 } : Room).cells ({ frames := 0, cells := 0, slots := 0, locals := 0 } : Room).slots) := by
  obtain ⟨S_JUNCTION, S_FORK, ne_FORK_JUNCTION, S_JOIN, ne_JOIN_JUNCTION, E_JUNCTION, S_CHOICE, ne_CHOICE_FORK, ne_CHOICE_JOIN, E_CHOICE, S_ENTRY_POINT, ne_ENTRY_POINT_FORK, ne_ENTRY_POINT_JOIN, E_ENTRY_POINT, S_EXIT_POINT, ne_EXIT_POINT_FORK, ne_EXIT_POINT_JOIN, E_EXIT_POINT, S_SHALLOW_HISTORY, ne_FORK_SHALLOW_HISTORY, ne_JOIN_SHALLOW_HISTORY, E_SHALLOW_HISTORY, S_DEEP_HISTORY, ne_DEEP_HISTORY_FORK, ne_DEEP_HISTORY_JOIN, E_DEEP_HISTORY, E_FORK, ne_FORK_JOIN, E_JOIN, S_TERMINATE, ne_FORK_TERMINATE, ne_JOIN_TERMINATE, E_TERMINATE⟩ := id K
  refine MetFree.of_bodySF (plainFor_of_name pn1) hisR ?_
  intro p e s m args below meth c s₁ Bd hml0 hP hK
  obtain ⟨rfl, hZ, hh⟩ := hP
  have hx := Bd.exec
  have hby := Bd.bytes
  have hml : c.maxLocals = 1 := hml0
  have hown : s.vm.findClass "com/example/regionwise/regionwise/core/PseudostateKind" = some m.cls := findClass_of_methodNamed Bd.named
  have X0 : Stand p l e ({ frames := 0, cells := 0, slots := 0, locals := 0 } : Room) s m #[(.ref s_TERMINATE)] below meth c s₁ [] 0 0 := Stand.of_body Bd
  have e0 : s₁.heap = h0 := by rw [← hh, Bd.state]; rfl
  have N0 := Fr.nil n0
  have pre0 : ∀ t, Steps p.tables e below (s₁.setTop (mkF m 0 #[.val (.ref s_TERMINATE)] [])) t → Steps p.tables e below (s₁.setTop (entryFrame m #[(.ref s_TERMINATE)] 1)) t := fun t k => castTop (by first | (simp [entryFrame, mkF, argsToLocals, Value.category]; done) | rfl) k
  obtain ⟨T1, X1, e1, st1⟩ := getS X0 hx hZ hown (host := "") (hw _ (List.mem_of_getElem? (i := 13) rfl)) Via.refl e0 S_FORK (g := (mkF m 1 #[.val (.ref s_TERMINATE)] [(.ref s_TERMINATE)])) rfl (hb hby d1_1)
  obtain ⟨T2, X2, e2, st2⟩ := getS X1 hx hZ hown (host := "") (hw _ (List.mem_of_getElem? (i := 15) rfl)) Via.refl e1 S_JOIN (g := (mkF m 8 #[.val (.ref s_TERMINATE)] [(.ref s_TERMINATE)])) rfl (hb hby d1_8)
  obtain ⟨fs, hr, hrun, hended, hW, hsame⟩ := X2.leave (v := some (.int (0 : Int32))) (fun h => by rw [Bd.returns] at h; cases h)
  refine ⟨_, _, pre0 _ ?_, hrun, hended, _, _, rfl, ?_, ⟨_, rfl⟩, hW, hsame.mono (by decide) (by decide)⟩
  · show Steps p.tables e below (s₁.setTop (mkF m 0 #[.val (.ref s_TERMINATE)] [])) _
    refine XS.aloadN X0.here hx rfl (hb hby d1_0) rfl rfl ?_
    show Steps p.tables e below (s₁.setTop (mkF m 1 #[.val (.ref s_TERMINATE)] [(.ref s_TERMINATE)])) _
    refine st1 _ ?_
    show Steps p.tables e below (T1.setTop (mkF m 4 #[.val (.ref s_TERMINATE)] [(.ref s_FORK), (.ref s_TERMINATE)])) _
    refine Jvm.RoadKit.acmp (g := (mkF m 4 #[.val (.ref s_TERMINATE)] [(.ref s_FORK), (.ref s_TERMINATE)])) X1 hx rfl rfl rfl (pc0 := 4) (pc' := 7) (same := false) rfl (hb hby d1_4) rfl (decide_eq_false fun q => (Ne.symm ne_FORK_TERMINATE) (Value.ref.inj q)) (by decide) (by decide) ?_
    show Steps p.tables e below (T1.setTop (mkF m 7 #[.val (.ref s_TERMINATE)] [])) _
    refine XS.aloadN X1.here hx rfl (hb hby d1_7) rfl rfl ?_
    show Steps p.tables e below (T1.setTop (mkF m 8 #[.val (.ref s_TERMINATE)] [(.ref s_TERMINATE)])) _
    refine st2 _ ?_
    show Steps p.tables e below (T2.setTop (mkF m 11 #[.val (.ref s_TERMINATE)] [(.ref s_JOIN), (.ref s_TERMINATE)])) _
    refine Jvm.RoadKit.acmp (g := (mkF m 11 #[.val (.ref s_TERMINATE)] [(.ref s_JOIN), (.ref s_TERMINATE)])) X2 hx rfl rfl rfl (pc0 := 11) (pc' := 18) (same := false) rfl (hb hby d1_11) rfl (decide_eq_false fun q => (Ne.symm ne_JOIN_TERMINATE) (Value.ref.inj q)) (by decide) (by decide) ?_
    show Steps p.tables e below (T2.setTop (mkF m 18 #[.val (.ref s_TERMINATE)] [])) _
    refine XS.iconst X2.here hx rfl (hb hby d1_18) ?_
    show Steps p.tables e below (T2.setTop (mkF m 19 #[.val (.ref s_TERMINATE)] [(.int (0 : Int32))])) _
    exact retN X2 hx (t := .boolean) Bd.returns (by simp) (hb hby d1_19) hr
  · exact ⟨rfl, N0, e2⟩
set_option maxRecDepth 65536 in
set_option maxHeartbeats 40000000 in
theorem law_k8 (l : Launch) (Z : State) (a0 : Array Value) (hw : ∀ d ∈ tables_1, d.before a0 Z = true) (ws : List Jvm.Cond) (h0 : Heap) (n0 : Nat) (s_JUNCTION : Addr) (s_FORK : Addr) (s_JOIN : Addr) (s_CHOICE : Addr) (s_ENTRY_POINT : Addr) (s_EXIT_POINT : Addr) (s_SHALLOW_HISTORY : Addr) (s_DEEP_HISTORY : Addr) (s_TERMINATE : Addr) (K : Ctx Z h0 s_JUNCTION s_FORK s_JOIN s_CHOICE s_ENTRY_POINT s_EXIT_POINT s_SHALLOW_HISTORY s_DEEP_HISTORY s_TERMINATE) (p0 : Int32) (hp0 : ((p0 &&& (2147483647 : Int32)) % (9 : Int32)) = (8 : Int32)) :
    MetFree l x (head1 (Jvm.Cond.code x code maxLocals ret :: ws) room_1) (fun a U => a = #[(.int p0)] ∧ Z.Warmed39 U.vm ∧ U.heap = h0) (fun _ _ _ _ _ => True) (fun _ U o U' => ∃ v L, o = .returned v ∧ QV (.int (1 : Int32)) h0 n0 v U'.heap L ∧ FrameEnd U o U' L room_1.cells room_1.slots) := by
  obtain ⟨S_JUNCTION, S_FORK, ne_FORK_JUNCTION, S_JOIN, ne_JOIN_JUNCTION, E_JUNCTION, S_CHOICE, ne_CHOICE_FORK, ne_CHOICE_JOIN, E_CHOICE, S_ENTRY_POINT, ne_ENTRY_POINT_FORK, ne_ENTRY_POINT_JOIN, E_ENTRY_POINT, S_EXIT_POINT, ne_EXIT_POINT_FORK, ne_EXIT_POINT_JOIN, E_EXIT_POINT, S_SHALLOW_HISTORY, ne_FORK_SHALLOW_HISTORY, ne_JOIN_SHALLOW_HISTORY, E_SHALLOW_HISTORY, S_DEEP_HISTORY, ne_DEEP_HISTORY_FORK, ne_DEEP_HISTORY_JOIN, E_DEEP_HISTORY, E_FORK, ne_FORK_JOIN, E_JOIN, S_TERMINATE, ne_FORK_TERMINATE, ne_JOIN_TERMINATE, E_TERMINATE⟩ := id K
  refine MetFree.of_bodySF (plainFor_of_name pn2) hisR ?_
  intro p e s m args below meth c s₁ Bd hml0 hP hK
  obtain ⟨rfl, hZ, hh⟩ := hP
  have hx := Bd.exec
  have hby := Bd.bytes
  have hml : c.maxLocals = 4 := hml0
  have hown : s.vm.findClass "com/example/regionwise/regionwise/core/PseudostateKindSpansRegionsPinLaw" = some m.cls := findClass_of_methodNamed Bd.named
  have X0 : Stand p l e room_1 s m #[(.int p0)] below meth c s₁ [] 0 0 := Stand.of_body Bd
  have e0 : s₁.heap = h0 := by rw [← hh, Bd.state]; rfl
  have N0 := Fr.nil n0
  have pre0 : ∀ t, Steps p.tables e below (s₁.setTop (mkF m 0 #[.val (.int p0), .unset, .unset, .unset] [])) t → Steps p.tables e below (s₁.setTop (entryFrame m #[(.int p0)] maxLocals)) t := fun t k => castTop (by first | (simp [entryFrame, mkF, argsToLocals, Value.category, maxLocals]; done) | rfl) k
  obtain ⟨_, _, ⟨T1, L1, k1, n1⟩, -, X1, ⟨Lc1, hQ1, l1, y1, z1⟩, st1⟩ := Jvm.LawKit.callS X0 hx (y := (⟨"com/example/regionwise/regionwise/core/PseudostateKindSpansRegionsPinLaw", "pick", "(I)Lcom/example/regionwise/regionwise/core/PseudostateKind;"⟩ : MethodName)) hown (mvT hZ (hw _ (List.mem_of_getElem? (i := 1) rfl))) (mvT hZ (hw _ (List.mem_of_getElem? (i := 2) rfl))) (mvT hZ (hw _ (List.mem_of_getElem? (i := 3) rfl))) (mvT hZ (hw _ (List.mem_of_getElem? (i := 4) rfl))) (by decide) (backOf (W := 0) (r24 l Z a0 hw [] h0 n0 s_JUNCTION s_FORK s_JOIN s_CHOICE s_ENTRY_POINT s_EXIT_POINT s_SHALLOW_HISTORY s_DEEP_HISTORY s_TERMINATE K) hZ (hw _ (List.mem_of_getElem? (i := 4) rfl)) (hw _ (List.mem_of_getElem? (i := 3) rfl)) (by decide) (by decide)) (g := (mkF m 9 #[.val (.int p0), .val (.int (8 : Int32)), .unset, .unset] [(.int (8 : Int32))])) rfl (by rw [hml]; rfl) (argsL := [(.int (8 : Int32))]) (rest := []) (lenOf pd0 rfl) rfl (by show 2 * 0 + _ ≤ _; exact Nat.le_of_eq rfl) (hb hby at_9) (fun _ _ => ⟨rfl, e0, (by decide : 0 + 0 ≤ _), (by decide : 0 + 0 ≤ _)⟩)
  dsimp only [Pt.U, Pt.locs, Pt.cells, Pt.slots] at X1 l1 y1 z1 st1 hQ1
  subst l1 y1 z1
  obtain ⟨rfl, N1q, e1⟩ := hQ1
  have N1 := Fr.app N0 N1q
  obtain ⟨cq2, kq2, q2a, q2b, q2c⟩ := isOf hZ e1 E_TERMINATE
  obtain ⟨_, _, ⟨T2, L2, k2, n2⟩, -, X2, ⟨Lc2, hQ2, l2, y2, z2⟩, st2⟩ := X1.virtualBack hx (y := (⟨"com/example/regionwise/regionwise/core/PseudostateKind", "spansRegions", "()Z"⟩ : MethodName)) (z := (⟨"com/example/regionwise/regionwise/core/PseudostateKind", "spansRegions", "()Z"⟩ : MethodName)) hown (mvT hZ (hw _ (List.mem_of_getElem? (i := 8) rfl))) (mvT hZ (hw _ (List.mem_of_getElem? (i := 9) rfl))) (notFace_of_selects (args := #[]) (mvT hZ (hw _ (List.mem_of_getElem? (i := 11) rfl)))) (mvT hZ (hw _ (List.mem_of_getElem? (i := 11) rfl))) (mvT hZ (hw _ (List.mem_of_getElem? (i := 10) rfl))) (by decide) (backOf (W := 0) (r25 l Z a0 hw [] h0 n0 s_JUNCTION s_FORK s_JOIN s_CHOICE s_ENTRY_POINT s_EXIT_POINT s_SHALLOW_HISTORY s_DEEP_HISTORY s_TERMINATE K) hZ (hw _ (List.mem_of_getElem? (i := 12) rfl)) (hw _ (List.mem_of_getElem? (i := 6) rfl)) (by decide) (by decide)) q2a q2c (g := (mkF m 32 #[.val (.int p0), .val (.int (8 : Int32)), .val (.ref s_TERMINATE), .val (.int (0 : Int32))] [(.ref s_TERMINATE)])) rfl (by rw [hml]; rfl) (Steps.refl _) (argsL := []) (rest := []) (lenOf pd1 rfl) rfl (by show 2 * 0 + _ ≤ _; exact Nat.le_of_eq rfl) (hb hby at_32) (fun _ _ => ⟨rfl, e1, (by decide : 0 + 0 ≤ _), (by decide : 0 + 0 ≤ _)⟩)
  dsimp only [Pt.U, Pt.locs, Pt.cells, Pt.slots] at X2 l2 y2 z2 st2 hQ2
  subst l2 y2 z2
  obtain ⟨rfl, N2q, e2⟩ := hQ2
  have N2 := Fr.app N1 N2q
  obtain ⟨fs, hr, hrun, hended, hW, hsame⟩ := X2.leave (v := some (.int (1 : Int32))) (fun h => by rw [Bd.returns] at h; cases h)
  refine ⟨_, _, pre0 _ ?_, hrun, hended, _, _, rfl, ?_, ⟨_, rfl⟩, hW, hsame.mono (by decide) (by decide)⟩
  · show Steps p.tables e below (s₁.setTop (mkF m 0 #[.val (.int p0), .unset, .unset, .unset] [])) _
    refine XS.iloadN X0.here hx rfl (hb hby at_0) rfl ?_
    show Steps p.tables e below (s₁.setTop (mkF m 1 #[.val (.int p0), .unset, .unset, .unset] [(.int p0)])) _
    refine X0.ldcInt hx hown (mvT hZ (hw _ (List.mem_of_getElem? (i := 0) rfl))) (g := (mkF m 1 #[.val (.int p0), .unset, .unset, .unset] [(.int p0)])) rfl (hb hby at_1) _ ?_
    show Steps p.tables e below (s₁.setTop (mkF m 3 #[.val (.int p0), .unset, .unset, .unset] [(.int (2147483647 : Int32)), (.int p0)])) _
    refine XS.iand X0.here hx rfl (hb hby at_3) rfl ?_
    show Steps p.tables e below (s₁.setTop (mkF m 4 #[.val (.int p0), .unset, .unset, .unset] [(.int (p0 &&& (2147483647 : Int32)))])) _
    refine XS.bipush X0.here hx rfl (hb hby at_4) ?_
    show Steps p.tables e below (s₁.setTop (mkF m 6 #[.val (.int p0), .unset, .unset, .unset] [(.int (9 : Int32)), (.int (p0 &&& (2147483647 : Int32)))])) _
    refine Jvm.RoadKit.iremM X0 hx rfl (hb hby at_6) rfl (by decide) ?_
    show Steps p.tables e below (s₁.setTop (mkF m 7 #[.val (.int p0), .unset, .unset, .unset] [(.int ((p0 &&& (2147483647 : Int32)) % (9 : Int32)))])) _
    rw [hp0]
    show Steps p.tables e below (s₁.setTop (mkF m 7 #[.val (.int p0), .unset, .unset, .unset] [(.int (8 : Int32))])) _
    refine XS.istoreN X0.here hx rfl (hb hby at_7) rfl (l' := #[.val (.int p0), .val (.int (8 : Int32)), .unset, .unset]) rfl ?_
    show Steps p.tables e below (s₁.setTop (mkF m 8 #[.val (.int p0), .val (.int (8 : Int32)), .unset, .unset] [])) _
    refine XS.iloadN X0.here hx rfl (hb hby at_8) rfl ?_
    show Steps p.tables e below (s₁.setTop (mkF m 9 #[.val (.int p0), .val (.int (8 : Int32)), .unset, .unset] [(.int (8 : Int32))])) _
    refine st1 _ ?_
    show Steps p.tables e below (T1.setTop (mkF m 12 #[.val (.int p0), .val (.int (8 : Int32)), .unset, .unset] [(.ref s_TERMINATE)])) _
    refine XS.astoreN X1.here hx rfl (hb hby at_12) rfl rfl (l' := #[.val (.int p0), .val (.int (8 : Int32)), .val (.ref s_TERMINATE), .unset]) rfl ?_
    show Steps p.tables e below (T1.setTop (mkF m 13 #[.val (.int p0), .val (.int (8 : Int32)), .val (.ref s_TERMINATE), .unset] [])) _
    refine XS.iloadN X1.here hx rfl (hb hby at_13) rfl ?_
    show Steps p.tables e below (T1.setTop (mkF m 14 #[.val (.int p0), .val (.int (8 : Int32)), .val (.ref s_TERMINATE), .unset] [(.int (8 : Int32))])) _
    refine XS.bipush X1.here hx rfl (hb hby at_14) ?_
    show Steps p.tables e below (T1.setTop (mkF m 16 #[.val (.int p0), .val (.int (8 : Int32)), .val (.ref s_TERMINATE), .unset] [(.int (6 : Int32)), (.int (8 : Int32))])) _
    refine XS.icmpNo X1.here hx rfl (hb hby at_16) rfl (by decide +kernel) ?_
    show Steps p.tables e below (T1.setTop (mkF m 19 #[.val (.int p0), .val (.int (8 : Int32)), .val (.ref s_TERMINATE), .unset] [])) _
    refine XS.iloadN X1.here hx rfl (hb hby at_19) rfl ?_
    show Steps p.tables e below (T1.setTop (mkF m 20 #[.val (.int p0), .val (.int (8 : Int32)), .val (.ref s_TERMINATE), .unset] [(.int (8 : Int32))])) _
    refine XS.bipush X1.here hx rfl (hb hby at_20) ?_
    show Steps p.tables e below (T1.setTop (mkF m 22 #[.val (.int p0), .val (.int (8 : Int32)), .val (.ref s_TERMINATE), .unset] [(.int (7 : Int32)), (.int (8 : Int32))])) _
    refine XS.icmpYes X1.here hx rfl (pc0 := 22) (pc' := 29) rfl (hb hby at_22) rfl (by decide +kernel) (by decide) (by decide) ?_
    show Steps p.tables e below (T1.setTop (mkF m 29 #[.val (.int p0), .val (.int (8 : Int32)), .val (.ref s_TERMINATE), .unset] [])) _
    refine XS.iconst X1.here hx rfl (hb hby at_29) ?_
    show Steps p.tables e below (T1.setTop (mkF m 30 #[.val (.int p0), .val (.int (8 : Int32)), .val (.ref s_TERMINATE), .unset] [(.int (0 : Int32))])) _
    refine XS.istoreN X1.here hx rfl (hb hby at_30) rfl (l' := #[.val (.int p0), .val (.int (8 : Int32)), .val (.ref s_TERMINATE), .val (.int (0 : Int32))]) rfl ?_
    show Steps p.tables e below (T1.setTop (mkF m 31 #[.val (.int p0), .val (.int (8 : Int32)), .val (.ref s_TERMINATE), .val (.int (0 : Int32))] [])) _
    refine XS.aloadN X1.here hx rfl (hb hby at_31) rfl rfl ?_
    show Steps p.tables e below (T1.setTop (mkF m 32 #[.val (.int p0), .val (.int (8 : Int32)), .val (.ref s_TERMINATE), .val (.int (0 : Int32))] [(.ref s_TERMINATE)])) _
    refine st2.trans ?_
    show Steps p.tables e below (T2.setTop (mkF m 35 #[.val (.int p0), .val (.int (8 : Int32)), .val (.ref s_TERMINATE), .val (.int (0 : Int32))] [(.int (0 : Int32))])) _
    refine XS.iloadN X2.here hx rfl (hb hby at_35) rfl ?_
    show Steps p.tables e below (T2.setTop (mkF m 36 #[.val (.int p0), .val (.int (8 : Int32)), .val (.ref s_TERMINATE), .val (.int (0 : Int32))] [(.int (0 : Int32)), (.int (0 : Int32))])) _
    refine XS.icmpNo X2.here hx rfl (hb hby at_36) rfl (by decide +kernel) ?_
    show Steps p.tables e below (T2.setTop (mkF m 39 #[.val (.int p0), .val (.int (8 : Int32)), .val (.ref s_TERMINATE), .val (.int (0 : Int32))] [])) _
    refine XS.iconst X2.here hx rfl (hb hby at_39) ?_
    show Steps p.tables e below (T2.setTop (mkF m 40 #[.val (.int p0), .val (.int (8 : Int32)), .val (.ref s_TERMINATE), .val (.int (0 : Int32))] [(.int (1 : Int32))])) _
    refine XS.goto X2.here hx rfl (pc0 := 40) (pc' := 44) rfl (hb hby at_40) (by decide) (by decide) ?_
    show Steps p.tables e below (T2.setTop (mkF m 44 #[.val (.int p0), .val (.int (8 : Int32)), .val (.ref s_TERMINATE), .val (.int (0 : Int32))] [(.int (1 : Int32))])) _
    exact retN X2 hx (t := .boolean) Bd.returns (by simp) (hb hby at_44) hr
  · exact ⟨rfl, N2, e2⟩
theorem rm0 (l : Launch) (Z : State) (a0 : Array Value) (hw : ∀ d ∈ tables_1, d.before a0 Z = true) (ws : List Jvm.Cond) (h0 : Heap) (n0 : Nat) (s_JUNCTION : Addr) (s_FORK : Addr) (s_JOIN : Addr) (s_CHOICE : Addr) (s_ENTRY_POINT : Addr) (s_EXIT_POINT : Addr) (s_SHALLOW_HISTORY : Addr) (s_DEEP_HISTORY : Addr) (s_TERMINATE : Addr) (K : Ctx Z h0 s_JUNCTION s_FORK s_JOIN s_CHOICE s_ENTRY_POINT s_EXIT_POINT s_SHALLOW_HISTORY s_DEEP_HISTORY s_TERMINATE) (p0 : Int32) :
    MetFree l x (head1 (Jvm.Cond.code x code maxLocals ret :: ws) room_1) (fun a U => a = #[(.int p0)] ∧ Z.Warmed39 U.vm ∧ U.heap = h0) (fun _ _ _ _ _ => True) (fun _ U o U' => ∃ v L, o = .returned v ∧ QV (.int (1 : Int32)) h0 n0 v U'.heap L ∧ FrameEnd U o U' L room_1.cells room_1.slots) := by
  rcases own_mod9 p0 with hp0 | hp0 | hp0 | hp0 | hp0 | hp0 | hp0 | hp0 | hp0
  · exact law_k0 l Z a0 hw ws h0 n0 s_JUNCTION s_FORK s_JOIN s_CHOICE s_ENTRY_POINT s_EXIT_POINT s_SHALLOW_HISTORY s_DEEP_HISTORY s_TERMINATE K p0 hp0
  · exact law_k1 l Z a0 hw ws h0 n0 s_JUNCTION s_FORK s_JOIN s_CHOICE s_ENTRY_POINT s_EXIT_POINT s_SHALLOW_HISTORY s_DEEP_HISTORY s_TERMINATE K p0 hp0
  · exact law_k2 l Z a0 hw ws h0 n0 s_JUNCTION s_FORK s_JOIN s_CHOICE s_ENTRY_POINT s_EXIT_POINT s_SHALLOW_HISTORY s_DEEP_HISTORY s_TERMINATE K p0 hp0
  · exact law_k3 l Z a0 hw ws h0 n0 s_JUNCTION s_FORK s_JOIN s_CHOICE s_ENTRY_POINT s_EXIT_POINT s_SHALLOW_HISTORY s_DEEP_HISTORY s_TERMINATE K p0 hp0
  · exact law_k4 l Z a0 hw ws h0 n0 s_JUNCTION s_FORK s_JOIN s_CHOICE s_ENTRY_POINT s_EXIT_POINT s_SHALLOW_HISTORY s_DEEP_HISTORY s_TERMINATE K p0 hp0
  · exact law_k5 l Z a0 hw ws h0 n0 s_JUNCTION s_FORK s_JOIN s_CHOICE s_ENTRY_POINT s_EXIT_POINT s_SHALLOW_HISTORY s_DEEP_HISTORY s_TERMINATE K p0 hp0
  · exact law_k6 l Z a0 hw ws h0 n0 s_JUNCTION s_FORK s_JOIN s_CHOICE s_ENTRY_POINT s_EXIT_POINT s_SHALLOW_HISTORY s_DEEP_HISTORY s_TERMINATE K p0 hp0
  · exact law_k7 l Z a0 hw ws h0 n0 s_JUNCTION s_FORK s_JOIN s_CHOICE s_ENTRY_POINT s_EXIT_POINT s_SHALLOW_HISTORY s_DEEP_HISTORY s_TERMINATE K p0 hp0
  · exact law_k8 l Z a0 hw ws h0 n0 s_JUNCTION s_FORK s_JOIN s_CHOICE s_ENTRY_POINT s_EXIT_POINT s_SHALLOW_HISTORY s_DEEP_HISTORY s_TERMINATE K p0 hp0
set_option maxRecDepth 65536 in
set_option maxHeartbeats 40000000 in
theorem comes_1 {Post : Tables → Env → Array Value → State → Outcome → State → Prop} (hpost : ∀ tb e args s v u, (limb_1_1.after args s (.returned v) u = true ∧ limb_1_2.after args s (.returned v) u = true ∧ True) → FrameEnd s (.returned v) u (Jvm.fieldLocs frame_1_writes args s ++ Jvm.arrayLocs frame_1_arrays args s ++ Jvm.staticLocs frame_1_statics s) 0 0 → Post tb e args s (.returned v) u) :
    ArmFor flags0 classFile x code maxLocals ret World_1 tables_1 room_1 Calls_1 rest_1 Pre_1 Post := by
  intro l hfl _ _ p e ha hc hk s m args below hf hA hF happ hP
  obtain ⟨hcalls, hrest, hpre⟩ := hP
  obtain ⟨-, -, -, hnamed, -, -, -, hat⟩ := (Spec.applies_iff hf).mp happ
  obtain ⟨hg, hn⟩ := and_e (Cond.before_iff.mp (show (Jvm.Cond.and given_1 narrow_1).before args s = true from hpre))
  obtain ⟨g0, gr0⟩ := and_e hg
  have ga0 := gr0
  obtain ⟨w0, rfl⟩ : ∃ w0 : Value, args = #[w0] := by
    have hs : args.size = 1 := by simpa [Cond.value, given_1] using g0
    obtain ⟨L⟩ := args
    match L, hs with
    | [w0], _ => exact ⟨w0, rfl⟩
  have hw := fun d (hd : d ∈ tables_1) => atoms_spec (ws := Jvm.Cond.code x code maxLocals ret :: tables_1) hat d (List.mem_cons_of_mem _ hd)
  obtain ⟨p0, ei0⟩ := is_v ga0
  obtain rfl : w0 = (.int p0) := Option.some.inj ei0
  obtain ⟨hnl, hnr⟩ := and_e hn
  have n0 := hnl
  obtain ⟨hnrl, hnrr⟩ := and_e hnr
  have n1 := hnrl
  obtain ⟨hnrrl, hnrrr⟩ := and_e hnrr
  have n2 := hnrrl
  obtain ⟨hnrrrl, hnrrrr⟩ := and_e hnrrr
  have n3 := hnrrrl
  obtain ⟨hnrrrrl, hnrrrrr⟩ := and_e hnrrrr
  have n4 := hnrrrrl
  obtain ⟨hnrrrrrl, hnrrrrrr⟩ := and_e hnrrrrr
  have n5 := hnrrrrrl
  obtain ⟨hnrrrrrrl, hnrrrrrrr⟩ := and_e hnrrrrrr
  have n6 := hnrrrrrrl
  obtain ⟨hnrrrrrrrl, hnrrrrrrrr⟩ := and_e hnrrrrrrr
  have n7 := hnrrrrrrrl
  obtain ⟨hnrrrrrrrrl, hnrrrrrrrrr⟩ := and_e hnrrrrrrrr
  have n8 := hnrrrrrrrrl
  obtain ⟨hnrrrrrrrrrl, hnrrrrrrrrrr⟩ := and_e hnrrrrrrrrr
  have n9 := hnrrrrrrrrrl
  obtain ⟨hnrrrrrrrrrrl, hnrrrrrrrrrrr⟩ := and_e hnrrrrrrrrrr
  have n10 := hnrrrrrrrrrrl
  obtain ⟨hnrrrrrrrrrrrl, hnrrrrrrrrrrrr⟩ := and_e hnrrrrrrrrrrr
  have n11 := hnrrrrrrrrrrrl
  obtain ⟨hnrrrrrrrrrrrrl, hnrrrrrrrrrrrrr⟩ := and_e hnrrrrrrrrrrrr
  have n12 := hnrrrrrrrrrrrrl
  obtain ⟨hnrrrrrrrrrrrrrl, hnrrrrrrrrrrrrrr⟩ := and_e hnrrrrrrrrrrrrr
  have n13 := hnrrrrrrrrrrrrrl
  obtain ⟨hnrrrrrrrrrrrrrrl, hnrrrrrrrrrrrrrrr⟩ := and_e hnrrrrrrrrrrrrrr
  have n14 := hnrrrrrrrrrrrrrrl
  obtain ⟨hnrrrrrrrrrrrrrrrl, hnrrrrrrrrrrrrrrrr⟩ := and_e hnrrrrrrrrrrrrrrr
  have n15 := hnrrrrrrrrrrrrrrrl
  obtain ⟨hnrrrrrrrrrrrrrrrrl, hnrrrrrrrrrrrrrrrrr⟩ := and_e hnrrrrrrrrrrrrrrrr
  have n16 := hnrrrrrrrrrrrrrrrrl
  have n17 := hnrrrrrrrrrrrrrrrrr
  obtain ⟨s_JUNCTION, ev_JUNCTION⟩ := exa_v n0
  have E_JUNCTION := Exa.start ev_JUNCTION n0
  have S_JUNCTION := Sta.start ev_JUNCTION (Or.inr ⟨(hw _ (List.mem_of_getElem? (i := 6) rfl)), (hw _ (List.mem_of_getElem? (i := 7) rfl))⟩)
  obtain ⟨s_FORK, ev_FORK⟩ := exa_v n1
  have E_FORK := Exa.start ev_FORK n1
  have S_FORK := Sta.start ev_FORK (Or.inr ⟨(hw _ (List.mem_of_getElem? (i := 6) rfl)), (hw _ (List.mem_of_getElem? (i := 14) rfl))⟩)
  obtain ⟨s_JOIN, ev_JOIN⟩ := exa_v n4
  have E_JOIN := Exa.start ev_JOIN n4
  have S_JOIN := Sta.start ev_JOIN (Or.inr ⟨(hw _ (List.mem_of_getElem? (i := 6) rfl)), (hw _ (List.mem_of_getElem? (i := 16) rfl))⟩)
  obtain ⟨s_EXIT_POINT, ev_EXIT_POINT⟩ := exa_v n6
  have E_EXIT_POINT := Exa.start ev_EXIT_POINT n6
  have S_EXIT_POINT := Sta.start ev_EXIT_POINT (Or.inr ⟨(hw _ (List.mem_of_getElem? (i := 6) rfl)), (hw _ (List.mem_of_getElem? (i := 18) rfl))⟩)
  obtain ⟨s_ENTRY_POINT, ev_ENTRY_POINT⟩ := exa_v n8
  have E_ENTRY_POINT := Exa.start ev_ENTRY_POINT n8
  have S_ENTRY_POINT := Sta.start ev_ENTRY_POINT (Or.inr ⟨(hw _ (List.mem_of_getElem? (i := 6) rfl)), (hw _ (List.mem_of_getElem? (i := 20) rfl))⟩)
  obtain ⟨s_CHOICE, ev_CHOICE⟩ := exa_v n10
  have E_CHOICE := Exa.start ev_CHOICE n10
  have S_CHOICE := Sta.start ev_CHOICE (Or.inr ⟨(hw _ (List.mem_of_getElem? (i := 6) rfl)), (hw _ (List.mem_of_getElem? (i := 22) rfl))⟩)
  obtain ⟨s_SHALLOW_HISTORY, ev_SHALLOW_HISTORY⟩ := exa_v n12
  have E_SHALLOW_HISTORY := Exa.start ev_SHALLOW_HISTORY n12
  have S_SHALLOW_HISTORY := Sta.start ev_SHALLOW_HISTORY (Or.inr ⟨(hw _ (List.mem_of_getElem? (i := 6) rfl)), (hw _ (List.mem_of_getElem? (i := 25) rfl))⟩)
  obtain ⟨s_TERMINATE, ev_TERMINATE⟩ := exa_v n14
  have E_TERMINATE := Exa.start ev_TERMINATE n14
  have S_TERMINATE := Sta.start ev_TERMINATE (Or.inr ⟨(hw _ (List.mem_of_getElem? (i := 6) rfl)), (hw _ (List.mem_of_getElem? (i := 27) rfl))⟩)
  obtain ⟨s_DEEP_HISTORY, ev_DEEP_HISTORY⟩ := exa_v n16
  have E_DEEP_HISTORY := Exa.start ev_DEEP_HISTORY n16
  have S_DEEP_HISTORY := Sta.start ev_DEEP_HISTORY (Or.inr ⟨(hw _ (List.mem_of_getElem? (i := 6) rfl)), (hw _ (List.mem_of_getElem? (i := 30) rfl))⟩)
  have o_JUNCTION_ordinal := (fld_at ev_JUNCTION).symm.trans (own_eqI n2)
  have F_JUNCTION_ordinal := Fld.start o_JUNCTION_ordinal
  have o_FORK_ordinal := (fld_at ev_FORK).symm.trans (own_eqI n3)
  have F_FORK_ordinal := Fld.start o_FORK_ordinal
  have o_JOIN_ordinal := (fld_at ev_JOIN).symm.trans (own_eqI n5)
  have F_JOIN_ordinal := Fld.start o_JOIN_ordinal
  have o_EXIT_POINT_ordinal := (fld_at ev_EXIT_POINT).symm.trans (own_eqI n7)
  have F_EXIT_POINT_ordinal := Fld.start o_EXIT_POINT_ordinal
  have o_ENTRY_POINT_ordinal := (fld_at ev_ENTRY_POINT).symm.trans (own_eqI n9)
  have F_ENTRY_POINT_ordinal := Fld.start o_ENTRY_POINT_ordinal
  have o_CHOICE_ordinal := (fld_at ev_CHOICE).symm.trans (own_eqI n11)
  have F_CHOICE_ordinal := Fld.start o_CHOICE_ordinal
  have o_SHALLOW_HISTORY_ordinal := (fld_at ev_SHALLOW_HISTORY).symm.trans (own_eqI n13)
  have F_SHALLOW_HISTORY_ordinal := Fld.start o_SHALLOW_HISTORY_ordinal
  have o_TERMINATE_ordinal := (fld_at ev_TERMINATE).symm.trans (own_eqI n15)
  have F_TERMINATE_ordinal := Fld.start o_TERMINATE_ordinal
  have o_DEEP_HISTORY_ordinal := (fld_at ev_DEEP_HISTORY).symm.trans (own_eqI n17)
  have F_DEEP_HISTORY_ordinal := Fld.start o_DEEP_HISTORY_ordinal
  have ne_FORK_JUNCTION : s_FORK ≠ s_JUNCTION := own_ne o_FORK_ordinal o_JUNCTION_ordinal (by decide)
  have ne_JOIN_JUNCTION : s_JOIN ≠ s_JUNCTION := own_ne o_JOIN_ordinal o_JUNCTION_ordinal (by decide)
  have ne_CHOICE_FORK : s_CHOICE ≠ s_FORK := own_ne o_CHOICE_ordinal o_FORK_ordinal (by decide)
  have ne_CHOICE_JOIN : s_CHOICE ≠ s_JOIN := own_ne o_CHOICE_ordinal o_JOIN_ordinal (by decide)
  have ne_ENTRY_POINT_FORK : s_ENTRY_POINT ≠ s_FORK := own_ne o_ENTRY_POINT_ordinal o_FORK_ordinal (by decide)
  have ne_ENTRY_POINT_JOIN : s_ENTRY_POINT ≠ s_JOIN := own_ne o_ENTRY_POINT_ordinal o_JOIN_ordinal (by decide)
  have ne_EXIT_POINT_FORK : s_EXIT_POINT ≠ s_FORK := own_ne o_EXIT_POINT_ordinal o_FORK_ordinal (by decide)
  have ne_EXIT_POINT_JOIN : s_EXIT_POINT ≠ s_JOIN := own_ne o_EXIT_POINT_ordinal o_JOIN_ordinal (by decide)
  have ne_FORK_SHALLOW_HISTORY : s_FORK ≠ s_SHALLOW_HISTORY := own_ne o_FORK_ordinal o_SHALLOW_HISTORY_ordinal (by decide)
  have ne_JOIN_SHALLOW_HISTORY : s_JOIN ≠ s_SHALLOW_HISTORY := own_ne o_JOIN_ordinal o_SHALLOW_HISTORY_ordinal (by decide)
  have ne_DEEP_HISTORY_FORK : s_DEEP_HISTORY ≠ s_FORK := own_ne o_DEEP_HISTORY_ordinal o_FORK_ordinal (by decide)
  have ne_DEEP_HISTORY_JOIN : s_DEEP_HISTORY ≠ s_JOIN := own_ne o_DEEP_HISTORY_ordinal o_JOIN_ordinal (by decide)
  have ne_FORK_JOIN : s_FORK ≠ s_JOIN := own_ne o_FORK_ordinal o_JOIN_ordinal (by decide)
  have ne_FORK_TERMINATE : s_FORK ≠ s_TERMINATE := own_ne o_FORK_ordinal o_TERMINATE_ordinal (by decide)
  have ne_JOIN_TERMINATE : s_JOIN ≠ s_TERMINATE := own_ne o_JOIN_ordinal o_TERMINATE_ordinal (by decide)
  obtain ⟨n, o, h1, h2, h3, _, L, rfl, ⟨rfl, N, _⟩, hq⟩ := rm0 l s _ hw tables_1 s.heap s.heap.size s_JUNCTION s_FORK s_JOIN s_CHOICE s_ENTRY_POINT s_EXIT_POINT s_SHALLOW_HISTORY s_DEEP_HISTORY s_TERMINATE ⟨S_JUNCTION, S_FORK, ne_FORK_JUNCTION, S_JOIN, ne_JOIN_JUNCTION, E_JUNCTION, S_CHOICE, ne_CHOICE_FORK, ne_CHOICE_JOIN, E_CHOICE, S_ENTRY_POINT, ne_ENTRY_POINT_FORK, ne_ENTRY_POINT_JOIN, E_ENTRY_POINT, S_EXIT_POINT, ne_EXIT_POINT_FORK, ne_EXIT_POINT_JOIN, E_EXIT_POINT, S_SHALLOW_HISTORY, ne_FORK_SHALLOW_HISTORY, ne_JOIN_SHALLOW_HISTORY, E_SHALLOW_HISTORY, S_DEEP_HISTORY, ne_DEEP_HISTORY_FORK, ne_DEEP_HISTORY_JOIN, E_DEEP_HISTORY, E_FORK, ne_FORK_JOIN, E_JOIN, S_TERMINATE, ne_FORK_TERMINATE, ne_JOIN_TERMINATE, E_TERMINATE⟩ p0 p e ha hc hk s m _ below hf ((Spec.applies_iff_loose hf).mp happ).1 ⟨rfl, State.Warmed39.refl s, rfl⟩ trivial
  refine ⟨n, _, h1, h2, h3, hpost _ _ _ _ _ _ ⟨Cond.after_iff.mpr rfl, Cond.after_iff.mpr (eq_i res_at (Term.int_eval (1)) rfl), trivial⟩ ⟨hq.1, hq.2.1, (hq.2.2.sift fun y hy => Or.inr (N y hy)).mono (by decide) (by decide)⟩⟩
theorem main_1_1 : Claimed_1_1 := comes_1 fun _ _ _ _ _ _ h hF => ⟨h.1, hF⟩
theorem main_1_2 : Claimed_1_2 := comes_1 fun _ _ _ _ _ _ h hF => ⟨h.2.1, hF⟩
end Jvm.Pilot.@@N@@
namespace Jvm.Pilot.@@N@@
open Jvm Jvm.ClassFile Sem Op Lib Jvm.Free Jvm.Stand Jvm.Pilot.@@N@@.Jvm.D
/-! MADE BY PROGRAM (witnessworld.py) out of the Statement's table words and the real class files: 10 classes; the members and pool entries that the words name. The judged class is class 1, her method 2. -/
namespace start1
open Jvm.ClassFile
def u (s : String) : CpInfo := .utf8 (stringToUtf16 s)
/-- a pool by its gaps: so many unusable entries, then the entry; so many at the end -/
def gap : Nat → List CpInfo → List CpInfo
  | 0, r => r
  | n + 1, r => .unusable :: gap n r
def poolList (es : List (Nat × CpInfo)) (last : Nat) : List CpInfo := es.foldr (fun e r => gap e.1 (e.2 :: r)) (gap last [])
def pool (es : List (Nat × CpInfo)) (last : Nat) : Array CpInfo := ⟨poolList es last⟩
def fileOf (pool : Array CpInfo) (this : Nat) (attrs : Array Attribute := #[]) (ms : Array MethodInfo := #[]) (fl : Nat := 33) (sup : Nat := 0) (ifs : Array Nat := #[]) (fds : Array FieldInfo := #[]) : ClassFile where
  minorVersion := 0
  majorVersion := 65
  constantPool := pool
  accessFlags := fl
  thisClass := this
  superClass := sup
  interfaces := ifs
  fields := fds
  methods := ms
  attributes := attrs
def plain (name : String) (sup : Option ClassId) : Class where
  name := name
  kind := .ordinary
  loader := none
  accessFlags := 33
  super := sup
  interfaces := #[]
  cf := none
  fields := #[]
  methods := #[]
  instanceTypes := #[]
  staticTypes := #[]
  resolved := #[]
  callSites := []
  init := .initialized
  statics := none
  mirror := none

def pool0 : Array CpInfo := pool [(5, u "<init>"), (0, u "()V"), (1, .class_ 10), (1, u "java/lang/Object")] 113

def k0m0 : Method := { name := "<init>", desc := "()V", sig := { parameters := [], returnType := none }, accessFlags := 1, code := none }
/-- java/lang/Object -/
def k0 : Class := { plain "java/lang/Object" none with
  accessFlags := 33
  interfaces := #[]
  cf := some (fileOf pool0 8 #[] #[{ accessFlags := 1, nameIndex := 5, descriptorIndex := 6, attributes := #[] }] 33 0 #[] #[])
  fields := #[]
  methods := #[k0m0]
  instanceTypes := #[]
  staticTypes := #[]
  resolved := Array.replicate 124 none
  statics := none }

def pool1 : Array CpInfo := pool [(2, .class_ 4), (1, u "java/lang/Object"), (0, u "<init>"), (0, u "()V"), (0, .fieldref 8 9), (0, .class_ 10), (0, .nameAndType 11 12), (0, u "com/example/regionwise/regionwise/core/PseudostateKind"), (0, u "JUNCTION"), (0, u "Lcom/example/regionwise/regionwise/core/PseudostateKind;"), (0, .fieldref 8 14), (0, .nameAndType 15 12), (0, u "CHOICE"), (0, .fieldref 8 17), (0, .nameAndType 18 12), (0, u "ENTRY_POINT"), (0, .fieldref 8 20), (0, .nameAndType 21 12), (0, u "EXIT_POINT"), (0, .fieldref 8 23), (0, .nameAndType 24 12), (0, u "SHALLOW_HISTORY"), (0, .fieldref 8 26), (0, .nameAndType 27 12), (0, u "DEEP_HISTORY"), (0, .fieldref 8 29), (0, .nameAndType 30 12), (0, u "FORK"), (0, .fieldref 8 32), (0, .nameAndType 33 12), (0, u "JOIN"), (0, .fieldref 8 35), (0, .nameAndType 36 12), (0, u "TERMINATE"), (0, .integer 2147483647), (0, .methodref 39 40), (0, .class_ 41), (0, .nameAndType 42 43), (0, u "com/example/regionwise/regionwise/core/PseudostateKindSpansRegionsPinLaw"), (0, u "pick"), (0, u "(I)Lcom/example/regionwise/regionwise/core/PseudostateKind;"), (0, .methodref 8 45), (0, .nameAndType 46 47), (0, u "spansRegions"), (0, u "()Z"), (3, u "law"), (0, u "(I)Z")] 2

def k1m0 : Method := { name := "<init>", desc := "()V", sig := { parameters := [], returnType := none }, accessFlags := 2, code := none }
def k1c1 : Code := { maxStack := 2, maxLocals := 1, code := method_2_code, exceptionTable := #[], attributes := #[] }
def k1m1 : Method := { name := "pick", desc := "(I)Lcom/example/regionwise/regionwise/core/PseudostateKind;", sig := { parameters := [.int], returnType := some (.object "com/example/regionwise/regionwise/core/PseudostateKind") }, accessFlags := 10, code := some k1c1 }
def k1c2 : Code := { maxStack := 2, maxLocals := 4, code := code, exceptionTable := #[], attributes := #[] }
def k1m2 : Method := { name := "law", desc := "(I)Z", sig := { parameters := [.int], returnType := some .boolean }, accessFlags := 9, code := some k1c2 }
/-- com/example/regionwise/regionwise/core/PseudostateKindSpansRegionsPinLaw -/
def k1 : Class := { plain "com/example/regionwise/regionwise/core/PseudostateKindSpansRegionsPinLaw" (some 0) with
  accessFlags := 49
  interfaces := #[]
  cf := some (fileOf pool1 39 #[] #[{ accessFlags := 2, nameIndex := 5, descriptorIndex := 6, attributes := #[] }, { accessFlags := 10, nameIndex := 42, descriptorIndex := 43, attributes := #[] }, { accessFlags := 9, nameIndex := 51, descriptorIndex := 52, attributes := #[] }] 49 2 #[] #[])
  fields := #[]
  methods := #[k1m0, k1m1, k1m2]
  instanceTypes := #[]
  staticTypes := #[]
  resolved := Array.replicate 55 none
  statics := none }

def pool2 : Array CpInfo := pool [(1, .class_ 2), (0, u "java/lang/constant/Constable"), (0, .class_ 4), (0, u "java/lang/Object")] 6

/-- java/lang/constant/Constable -/
def k2 : Class := { plain "java/lang/constant/Constable" (some 0) with
  accessFlags := 1537
  interfaces := #[]
  cf := some (fileOf pool2 1 #[] #[] 1537 3 #[] #[])
  fields := #[]
  methods := #[]
  instanceTypes := #[]
  staticTypes := #[]
  resolved := Array.replicate 11 none
  statics := none }

def pool3 : Array CpInfo := pool [(1, .class_ 2), (0, u "java/lang/Comparable"), (0, .class_ 4), (0, u "java/lang/Object")] 7

/-- java/lang/Comparable -/
def k3 : Class := { plain "java/lang/Comparable" (some 0) with
  accessFlags := 1537
  interfaces := #[]
  cf := some (fileOf pool3 1 #[] #[] 1537 3 #[] #[])
  fields := #[]
  methods := #[]
  instanceTypes := #[]
  staticTypes := #[]
  resolved := Array.replicate 12 none
  statics := none }

def pool4 : Array CpInfo := pool [(1, .class_ 2), (0, u "java/io/Serializable"), (0, .class_ 4), (0, u "java/lang/Object")] 2

/-- java/io/Serializable -/
def k4 : Class := { plain "java/io/Serializable" (some 0) with
  accessFlags := 1537
  interfaces := #[]
  cf := some (fileOf pool4 1 #[] #[] 1537 3 #[] #[])
  fields := #[]
  methods := #[]
  instanceTypes := #[]
  staticTypes := #[]
  resolved := Array.replicate 7 none
  statics := none }

def pool5 : Array CpInfo := pool [(2, .class_ 4), (1, u "java/lang/Enum"), (0, u "name"), (0, u "Ljava/lang/String;"), (2, u "ordinal"), (0, u "I"), (1, .class_ 14), (1, u "java/lang/Object"), (4, u "hash"), (86, .class_ 108), (1, u "java/lang/Enum$EnumDesc"), (2, .class_ 112), (0, u "java/lang/constant/Constable"), (0, .class_ 114), (0, u "java/lang/Comparable"), (0, .class_ 116), (0, u "java/io/Serializable")] 87

/-- java/lang/Enum -/
def k5 : Class := { plain "java/lang/Enum" (some 0) with
  accessFlags := 1057
  interfaces := #[2, 3, 4]
  cf := some (fileOf pool5 2 #[.nestMembers #[106]] #[] 1057 12 #[111, 113, 115] #[{ accessFlags := 18, nameIndex := 5, descriptorIndex := 6, attributes := #[] }, { accessFlags := 18, nameIndex := 9, descriptorIndex := 10, attributes := #[] }, { accessFlags := 2, nameIndex := 19, descriptorIndex := 10, attributes := #[] }])
  fields := #[{ name := "name", type := (.object "java/lang/String"), accessFlags := 18, slot := 0, constantValue := 0 }, { name := "ordinal", type := .int, accessFlags := 18, slot := 1, constantValue := 0 }, { name := "hash", type := .int, accessFlags := 2, slot := 2, constantValue := 0 }]
  methods := #[]
  instanceTypes := #[(.object "java/lang/String"), .int, .int]
  staticTypes := #[]
  resolved := Array.replicate 204 none
  statics := none }

def pool6 : Array CpInfo := pool [(1, .class_ 2), (0, u "com/example/regionwise/regionwise/core/PseudostateKind"), (2, u "JUNCTION"), (0, u "Lcom/example/regionwise/regionwise/core/PseudostateKind;"), (2, u "CHOICE"), (2, u "ENTRY_POINT"), (2, u "EXIT_POINT"), (2, u "SHALLOW_HISTORY"), (2, u "DEEP_HISTORY"), (0, .fieldref 1 23), (0, .nameAndType 24 6), (0, u "FORK"), (0, .fieldref 1 26), (0, .nameAndType 27 6), (0, u "JOIN"), (2, u "TERMINATE"), (2, u "$VALUES"), (0, u "[Lcom/example/regionwise/regionwise/core/PseudostateKind;"), (6, .class_ 43), (1, u "java/lang/Enum"), (8, u "word"), (0, u "Ljava/lang/String;"), (2, u "decidedAhead"), (0, u "Z"), (3, u "()Z"), (5, u "spansRegions")] 91

def k6c0 : Code := { maxStack := 2, maxLocals := 1, code := prog_62_method_8_code, exceptionTable := #[], attributes := #[] }
def k6m0 : Method := { name := "spansRegions", desc := "()Z", sig := { parameters := [], returnType := some .boolean }, accessFlags := 0, code := some k6c0 }
/-- com/example/regionwise/regionwise/core/PseudostateKind -/
def k6 : Class := { plain "com/example/regionwise/regionwise/core/PseudostateKind" (some 5) with
  accessFlags := 16433
  interfaces := #[]
  cf := some (fileOf pool6 1 #[] #[{ accessFlags := 0, nameIndex := 67, descriptorIndex := 61, attributes := #[] }] 16433 41 #[] #[{ accessFlags := 16409, nameIndex := 5, descriptorIndex := 6, attributes := #[] }, { accessFlags := 16409, nameIndex := 9, descriptorIndex := 6, attributes := #[] }, { accessFlags := 16409, nameIndex := 12, descriptorIndex := 6, attributes := #[] }, { accessFlags := 16409, nameIndex := 15, descriptorIndex := 6, attributes := #[] }, { accessFlags := 16409, nameIndex := 18, descriptorIndex := 6, attributes := #[] }, { accessFlags := 16409, nameIndex := 21, descriptorIndex := 6, attributes := #[] }, { accessFlags := 16409, nameIndex := 24, descriptorIndex := 6, attributes := #[] }, { accessFlags := 16409, nameIndex := 27, descriptorIndex := 6, attributes := #[] }, { accessFlags := 16409, nameIndex := 30, descriptorIndex := 6, attributes := #[] }, { accessFlags := 18, nameIndex := 52, descriptorIndex := 53, attributes := #[] }, { accessFlags := 18, nameIndex := 56, descriptorIndex := 57, attributes := #[] }, { accessFlags := 4122, nameIndex := 33, descriptorIndex := 34, attributes := #[] }])
  fields := #[{ name := "JUNCTION", type := (.object "com/example/regionwise/regionwise/core/PseudostateKind"), accessFlags := 16409, slot := 0, constantValue := 0 }, { name := "CHOICE", type := (.object "com/example/regionwise/regionwise/core/PseudostateKind"), accessFlags := 16409, slot := 1, constantValue := 0 }, { name := "ENTRY_POINT", type := (.object "com/example/regionwise/regionwise/core/PseudostateKind"), accessFlags := 16409, slot := 2, constantValue := 0 }, { name := "EXIT_POINT", type := (.object "com/example/regionwise/regionwise/core/PseudostateKind"), accessFlags := 16409, slot := 3, constantValue := 0 }, { name := "SHALLOW_HISTORY", type := (.object "com/example/regionwise/regionwise/core/PseudostateKind"), accessFlags := 16409, slot := 4, constantValue := 0 }, { name := "DEEP_HISTORY", type := (.object "com/example/regionwise/regionwise/core/PseudostateKind"), accessFlags := 16409, slot := 5, constantValue := 0 }, { name := "FORK", type := (.object "com/example/regionwise/regionwise/core/PseudostateKind"), accessFlags := 16409, slot := 6, constantValue := 0 }, { name := "JOIN", type := (.object "com/example/regionwise/regionwise/core/PseudostateKind"), accessFlags := 16409, slot := 7, constantValue := 0 }, { name := "TERMINATE", type := (.object "com/example/regionwise/regionwise/core/PseudostateKind"), accessFlags := 16409, slot := 8, constantValue := 0 }, { name := "word", type := (.object "java/lang/String"), accessFlags := 18, slot := 3, constantValue := 0 }, { name := "decidedAhead", type := .boolean, accessFlags := 18, slot := 4, constantValue := 0 }, { name := "$VALUES", type := (.array (.object "com/example/regionwise/regionwise/core/PseudostateKind")), accessFlags := 4122, slot := 9, constantValue := 0 }]
  methods := #[k6m0]
  instanceTypes := #[(.object "java/lang/String"), .int, .int, (.object "java/lang/String"), .boolean]
  staticTypes := #[(.object "com/example/regionwise/regionwise/core/PseudostateKind"), (.object "com/example/regionwise/regionwise/core/PseudostateKind"), (.object "com/example/regionwise/regionwise/core/PseudostateKind"), (.object "com/example/regionwise/regionwise/core/PseudostateKind"), (.object "com/example/regionwise/regionwise/core/PseudostateKind"), (.object "com/example/regionwise/regionwise/core/PseudostateKind"), (.object "com/example/regionwise/regionwise/core/PseudostateKind"), (.object "com/example/regionwise/regionwise/core/PseudostateKind"), (.object "com/example/regionwise/regionwise/core/PseudostateKind"), (.array (.object "com/example/regionwise/regionwise/core/PseudostateKind"))]
  resolved := Array.replicate 159 none
  statics := some 0 }

def pool7 : Array CpInfo := pool [(1, u "java/lang/Cloneable"), (0, .class_ 1), (0, u "java/lang/Object"), (0, .class_ 3)] 3

/-- java/lang/Cloneable -/
def k7 : Class := { plain "java/lang/Cloneable" (some 0) with
  accessFlags := 1537
  interfaces := #[]
  cf := some (fileOf pool7 2 #[] #[] 1537 4 #[] #[])
  fields := #[]
  methods := #[]
  instanceTypes := #[]
  staticTypes := #[]
  resolved := Array.replicate 8 none
  statics := none }

/-- the primitive byte -/
def k8 : Class := { plain "byte" none with kind := .primitive 'B', accessFlags := 0x411 }
/-- [B -/
def k9 : Class := { plain "[B" (some 0) with kind := .array 8 .byte, interfaces := #[7, 4], accessFlags := 1041 }

def heap : Heap := #[{ cls := 6, slots := #[.ref 1, .ref 6, .ref 5, .ref 4, .ref 7, .ref 9, .ref 2, .ref 3, .ref 8, .null], vm := .statics 6 },
  { cls := 6, slots := #[.null, .int 0, .int 0, .null, .int 0], vm := .none },
  { cls := 6, slots := #[.null, .int 6, .int 0, .null, .int 0], vm := .none },
  { cls := 6, slots := #[.null, .int 7, .int 0, .null, .int 0], vm := .none },
  { cls := 6, slots := #[.null, .int 3, .int 0, .null, .int 0], vm := .none },
  { cls := 6, slots := #[.null, .int 2, .int 0, .null, .int 0], vm := .none },
  { cls := 6, slots := #[.null, .int 1, .int 0, .null, .int 0], vm := .none },
  { cls := 6, slots := #[.null, .int 4, .int 0, .null, .int 0], vm := .none },
  { cls := 6, slots := #[.null, .int 8, .int 0, .null, .int 0], vm := .none },
  { cls := 6, slots := #[.null, .int 5, .int 0, .null, .int 0], vm := .none }]
def classes : Array Class := #[k0, k1, k2, k3, k4, k5, k6, k7, k8, k9]
def interned : List (Array UInt16 × Addr) := []
def slotsUsed : Nat := 55
def theMethod : MethodId := ⟨1, 2⟩
def args0 : Array Value := #[.int 5]
def aboutOver (below : List Frame) : State where
  vm := { classes := classes, interned := interned.toArray }
  heap := heap
  slotsUsed := slotsUsed
  threads := #[{ frames := .invoking theMethod args0 :: below }]
def below0 : List Frame := [.native { method := ⟨0, 0⟩, args := #[] }]
def about1 : State := aboutOver below0
def p0 : Program := .bare "" "" ""
def e0 : Env := launch0.env 0 0 0
theorem w_frames : about1.frames = Frame.invoking theMethod args0 :: below0 := rfl
set_option maxRecDepth 65536 in
theorem w_args : argsFit about1.vm theMethod args0 = true := by decide +kernel
set_option maxRecDepth 65536 in
theorem w_heap : heapFits about1 = true := by decide +kernel
set_option maxRecDepth 65536 in
theorem w_runnable : about1.curStatus? = some .runnable := by decide +kernel
set_option maxRecDepth 65536 in
theorem w_alone : about1.alone = true := by decide +kernel
set_option maxRecDepth 65536 in
theorem w_named : about1.methodNamed? x = some theMethod := by decide +kernel
set_option maxRecDepth 65536 in
theorem w_hears : about1.hears theMethod below0 = true := by decide +kernel
set_option maxRecDepth 65536 in
theorem w_ripe : about1.ripe theMethod args0 below0 = true := by decide +kernel
theorem w_running : about1.status = .running := rfl
set_option maxRecDepth 65536 in
theorem w_room : about1.hasRoom e0.platform room_1 = true :=
  launch0.hasRoom_least _ room_1 (by decide +kernel) (by decide +kernel) (by decide +kernel) (by decide +kernel) (by decide +kernel) (by decide +kernel)
theorem allAtoms_all (ts : List Jvm.Cond) (a : Array Jvm.Value) (st : Jvm.State) : (allAtoms ts).before a st = ts.all (fun c => c.before a st) := by
  induction ts with
  | nil => rfl
  | cons c t ih =>
    show (Jvm.Cond.and c (allAtoms t)).before a st = _
    rw [Jvm.Cond.before_and, ih, List.all_cons]
def words1 : List Jvm.Cond := Jvm.Cond.code x code maxLocals ret :: tables_1
/-- a 'code' word, met by the world's own term for the bytes: nothing is compared byte by byte -/
theorem code_word {y : MethodName} {bytes : ByteArray} {mx : Nat} {rt : Option FieldType} {a : Array Value} {s : State} {m : MethodId} {meth : Method} {c : Code} (h1 : s.methodNamed? y = some m) (h2 : s.vm.method? m = some meth) (h3 : meth.code = some c) (h4 : c.code = bytes)
    (h5 : (c.maxLocals == mx && c.exceptionTable.isEmpty && decide (c.maxStack ≤ mostOperands) && decide (meth.sig.returnType = rt) && !meth.locks && decide (parseMethodDescriptor y.desc = some meth.sig)) = true) : (Jvm.Cond.code y bytes mx rt).before a s = true := by
  simp only [Bool.and_eq_true, beq_iff_eq, Bool.not_eq_true', decide_eq_true_eq] at h5
  obtain ⟨⟨⟨⟨⟨g1, g2⟩, g3⟩, g4⟩, g5⟩, g6⟩ := h5
  simp [Cond.before, Cond.holds, Cond.value, h1, h2, h3, h4, g1, g2, g3, g4, g5, g6]
def isCode : Jvm.Cond → Bool
  | .code _ _ _ _ => true
  | _ => false
theorem all_split {L : List Jvm.Cond} {P : Jvm.Cond → Bool} (h1 : L.all (fun c => isCode c || P c) = true) (h2 : ∀ c ∈ L.filter isCode, P c = true) : L.all P = true := by
  refine List.all_eq_true.mpr fun c hc => ?_
  have h := List.all_eq_true.mp h1 c hc
  rcases Bool.eq_false_or_eq_true (isCode c) with hi | hi
  · exact h2 c (List.mem_filter.mpr ⟨hc, hi⟩)
  · simpa [hi] using h
set_option maxRecDepth 65536 in
theorem w_c0 : (Jvm.Cond.code x code maxLocals ret).before args0 about1 = true := code_word (m := ⟨1, 2⟩) (meth := k1m2) (c := k1c2) (by decide +kernel) rfl rfl rfl (by decide +kernel)
set_option maxRecDepth 65536 in
theorem w_c1 : (Jvm.Cond.code ({ cls := "com/example/regionwise/regionwise/core/PseudostateKindSpansRegionsPinLaw", name := "pick", desc := "(I)Lcom/example/regionwise/regionwise/core/PseudostateKind;" } : Jvm.MethodName) method_2_code (1 : Nat) (Option.some (Jvm.ClassFile.FieldType.object "com/example/regionwise/regionwise/core/PseudostateKind"))).before args0 about1 = true := code_word (m := ⟨1, 1⟩) (meth := k1m1) (c := k1c1) (by decide +kernel) rfl rfl rfl (by decide +kernel)
set_option maxRecDepth 65536 in
theorem w_c2 : (Jvm.Cond.code ({ cls := "com/example/regionwise/regionwise/core/PseudostateKind", name := "spansRegions", desc := "()Z" } : Jvm.MethodName) prog_62_method_8_code (1 : Nat) (Option.some Jvm.ClassFile.FieldType.boolean)).before args0 about1 = true := code_word (m := ⟨6, 0⟩) (meth := k6m0) (c := k6c0) (by decide +kernel) rfl rfl rfl (by decide +kernel)
def codes1 : List Jvm.Cond := [Jvm.Cond.code x code maxLocals ret, Jvm.Cond.code ({ cls := "com/example/regionwise/regionwise/core/PseudostateKindSpansRegionsPinLaw", name := "pick", desc := "(I)Lcom/example/regionwise/regionwise/core/PseudostateKind;" } : Jvm.MethodName) method_2_code (1 : Nat) (Option.some (Jvm.ClassFile.FieldType.object "com/example/regionwise/regionwise/core/PseudostateKind")), Jvm.Cond.code ({ cls := "com/example/regionwise/regionwise/core/PseudostateKind", name := "spansRegions", desc := "()Z" } : Jvm.MethodName) prog_62_method_8_code (1 : Nat) (Option.some Jvm.ClassFile.FieldType.boolean)]
set_option maxRecDepth 65536 in
theorem codes_eq : words1.filter isCode = codes1 := rfl
theorem w_codes : ∀ c ∈ words1.filter isCode, c.before args0 about1 = true := by
  rw [codes_eq]
  intro c hc
  simp only [codes1, List.mem_cons, List.not_mem_nil, or_false] at hc
  rcases hc with rfl | rfl | rfl
  · exact w_c0
  · exact w_c1
  · exact w_c2
set_option maxRecDepth 65536 in
theorem w_t1 : (words1.take 24).all (fun c => isCode c || c.before args0 about1) = true := by decide +kernel
set_option maxRecDepth 65536 in
theorem w_t2 : (words1.drop 24).all (fun c => isCode c || c.before args0 about1) = true := by decide +kernel
theorem w_tables : (allAtoms (Jvm.Cond.code x code maxLocals ret :: tables_1)).before args0 about1 = true := by
  rw [allAtoms_all]
  show words1.all (fun c => c.before args0 about1) = true
  refine all_split ?_ w_codes
  rw [← List.take_append_drop 24 words1, List.all_append, w_t1, w_t2]
  rfl
set_option maxRecDepth 65536 in
theorem w_case : (Jvm.Cond.and given_1 narrow_1).before args0 about1 = true := by decide +kernel
theorem w_applies : (headSpec (Jvm.Cond.code x code maxLocals ret :: tables_1) room_1).applies x e0.platform about1 = true :=
  (Spec.applies_iff w_frames).mpr ⟨w_running, w_runnable, w_alone, w_named, w_hears, w_ripe, w_room, w_tables⟩
theorem atStart : AtStart classFile x code maxLocals ret World_1 tables_1 room_1 Calls_1 rest_1 Pre_1 launch0 p0 e0 about1 theMethod args0 below0 :=
  ⟨lists_1, trivial, launch0.admits_env _ _ _, launch0.least_env, fairChoices_fair.cas, fairChoices_fair.clock, w_frames, w_args, w_heap, w_applies, trivial, trivial, w_case⟩
end start1
theorem witness_1 : WitnessClaimed_1 := ⟨start1.p0, start1.e0, start1.about1, start1.theMethod, start1.args0, start1.below0, start1.atStart⟩
end Jvm.Pilot.@@N@@
