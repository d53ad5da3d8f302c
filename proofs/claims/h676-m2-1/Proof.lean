import JvmDerived
import JvmDerived.Pilot.@@N@@Statement
import JvmDerived.Pilot.@@N@@Code
set_option linter.unusedVariables false
set_option linter.unusedSimpArgs false
@@BLOCK:NumsL.lean.txt@@
namespace Jvm.Pilot.@@N@@
open Jvm Jvm.ClassFile Sem Op Lib Jvm.Free Jvm.Stand Jvm.LawKit Jvm.RoadKit Bundle Jvm.Pilot.@@N@@.Jvm.D
/-- a term that the case says equals an int is worth that int -/
theorem own_eqI {args : Array Value} {s : State} {t : Term} {k : Int32} (h : (Jvm.Cond.eq t (.int k)).value args s none s [] = some true) : t.eval args s none [] s = some (.int k) := by
  obtain ⟨u, y, e1, e2, k1, k2⟩ := cmp_v (Or.inl h)
  obtain rfl : y = .int k := (Option.some.inj ((Term.int_eval k).symm.trans e2)).symm
  obtain ⟨z, rfl⟩ : ∃ z, u = .int z := k2
  have q : z = k := gotT (Cond.eq_ints e1 (Term.int_eval k)) h
  rw [e1, q]
/-- a term that the case says equals one that is worth an object is worth that object -/
theorem own_eqR {args : Array Value} {s : State} {t t' : Term} {b : Addr} (h : (Jvm.Cond.eq t t').value args s none s [] = some true) (hb : t'.eval args s none [] s = some (.ref b)) : t.eval args s none [] s = some (.ref b) := by
  obtain ⟨u, y, e1, e2, k1, k2⟩ := cmp_v (Or.inl h)
  obtain rfl : y = .ref b := (Option.some.inj (hb.symm.trans e2)).symm
  have q : u = .ref b := gotT (eq_R e1 hb k2.2 rfl) h
  rw [e1, q]
/-- two objects whose fields hold unlike values are unlike -/
theorem own_ne {s : State} {a b : Addr} {C n d : String} {v w : Value} (h1 : s.fieldOf? a C n d = some v) (h2 : s.fieldOf? b C n d = some w) (q : v ≠ w) : a ≠ b := fun e => by
  subst e; exact q (Option.some.inj (h1.symm.trans h2))
theorem own_pos (p : Int32) : 0 ≤ (p &&& (2147483647 : Int32)).toInt := by
  rw [Jvm.Kit.i32_mask p 2147483647 (k := 31) (by decide) (by decide)]; omega
theorem own_mod_lo (p n : Int32) (h : 0 < n.toInt) : 0 ≤ ((p &&& (2147483647 : Int32)) % n).toInt := by
  rw [Jvm.Kit.i32_rem_nonneg (own_pos p)]; exact Int.emod_nonneg _ (by omega)
theorem own_mod_hi (p n : Int32) (h : 0 < n.toInt) (k : Int) (hk : n.toInt = k) : ((p &&& (2147483647 : Int32)) % n).toInt < k := by
  rw [Jvm.Kit.i32_rem_nonneg (own_pos p), ← hk]; exact Int.emod_lt_of_pos _ h
theorem own_lt9 (z : Int32) (h1 : 0 ≤ z.toInt) (h2 : z.toInt < 9) : z = (0 : Int32) ∨ z = (1 : Int32) ∨ z = (2 : Int32) ∨ z = (3 : Int32) ∨ z = (4 : Int32) ∨ z = (5 : Int32) ∨ z = (6 : Int32) ∨ z = (7 : Int32) ∨ z = (8 : Int32) := by
  have e0 : (0 : Int32).toInt = 0 := by decide +kernel
  have e1 : (1 : Int32).toInt = 1 := by decide +kernel
  have e2 : (2 : Int32).toInt = 2 := by decide +kernel
  have e3 : (3 : Int32).toInt = 3 := by decide +kernel
  have e4 : (4 : Int32).toInt = 4 := by decide +kernel
  have e5 : (5 : Int32).toInt = 5 := by decide +kernel
  have e6 : (6 : Int32).toInt = 6 := by decide +kernel
  have e7 : (7 : Int32).toInt = 7 := by decide +kernel
  have e8 : (8 : Int32).toInt = 8 := by decide +kernel
  simp only [← Int32.toInt_inj]
  omega
theorem own_mod9 (p : Int32) : ((p &&& (2147483647 : Int32)) % (9 : Int32)) = (0 : Int32) ∨ ((p &&& (2147483647 : Int32)) % (9 : Int32)) = (1 : Int32) ∨ ((p &&& (2147483647 : Int32)) % (9 : Int32)) = (2 : Int32) ∨ ((p &&& (2147483647 : Int32)) % (9 : Int32)) = (3 : Int32) ∨ ((p &&& (2147483647 : Int32)) % (9 : Int32)) = (4 : Int32) ∨ ((p &&& (2147483647 : Int32)) % (9 : Int32)) = (5 : Int32) ∨ ((p &&& (2147483647 : Int32)) % (9 : Int32)) = (6 : Int32) ∨ ((p &&& (2147483647 : Int32)) % (9 : Int32)) = (7 : Int32) ∨ ((p &&& (2147483647 : Int32)) % (9 : Int32)) = (8 : Int32) :=
  own_lt9 _ (own_mod_lo p 9 (by decide +kernel)) (own_mod_hi p 9 (by decide +kernel) 9 (by decide +kernel))

theorem d0_0 : decode method_2_code 0 = .ok (.iload_n 0, 1) := by decide +kernel
theorem d0_1 : decode method_2_code 1 = .ok (.ifCond .ne 7, 3) := by decide +kernel
theorem d0_4 : decode method_2_code 4 = .ok (.getstatic 7, 3) := by decide +kernel
theorem d0_7 : decode method_2_code 7 = .ok (.areturn, 1) := by decide +kernel
theorem d0_8 : decode method_2_code 8 = .ok (.iload_n 0, 1) := by decide +kernel
theorem d0_9 : decode method_2_code 9 = .ok (.iconst 1, 1) := by decide +kernel
theorem d0_10 : decode method_2_code 10 = .ok (.if_icmp .ne 7, 3) := by decide +kernel
theorem d0_13 : decode method_2_code 13 = .ok (.getstatic 13, 3) := by decide +kernel
theorem d0_16 : decode method_2_code 16 = .ok (.areturn, 1) := by decide +kernel
theorem d0_17 : decode method_2_code 17 = .ok (.iload_n 0, 1) := by decide +kernel
theorem d0_18 : decode method_2_code 18 = .ok (.iconst 2, 1) := by decide +kernel
theorem d0_19 : decode method_2_code 19 = .ok (.if_icmp .ne 7, 3) := by decide +kernel
theorem d0_22 : decode method_2_code 22 = .ok (.getstatic 16, 3) := by decide +kernel
theorem d0_25 : decode method_2_code 25 = .ok (.areturn, 1) := by decide +kernel
theorem d0_26 : decode method_2_code 26 = .ok (.iload_n 0, 1) := by decide +kernel
theorem d0_27 : decode method_2_code 27 = .ok (.iconst 3, 1) := by decide +kernel
theorem d0_28 : decode method_2_code 28 = .ok (.if_icmp .ne 7, 3) := by decide +kernel
theorem d0_31 : decode method_2_code 31 = .ok (.getstatic 19, 3) := by decide +kernel
theorem d0_34 : decode method_2_code 34 = .ok (.areturn, 1) := by decide +kernel
theorem d0_35 : decode method_2_code 35 = .ok (.iload_n 0, 1) := by decide +kernel
theorem d0_36 : decode method_2_code 36 = .ok (.iconst 4, 1) := by decide +kernel
theorem d0_37 : decode method_2_code 37 = .ok (.if_icmp .ne 7, 3) := by decide +kernel
theorem d0_40 : decode method_2_code 40 = .ok (.getstatic 22, 3) := by decide +kernel
theorem d0_43 : decode method_2_code 43 = .ok (.areturn, 1) := by decide +kernel
theorem d0_44 : decode method_2_code 44 = .ok (.iload_n 0, 1) := by decide +kernel
theorem d0_45 : decode method_2_code 45 = .ok (.iconst 5, 1) := by decide +kernel
theorem d0_46 : decode method_2_code 46 = .ok (.if_icmp .ne 7, 3) := by decide +kernel
theorem d0_49 : decode method_2_code 49 = .ok (.getstatic 25, 3) := by decide +kernel
theorem d0_52 : decode method_2_code 52 = .ok (.areturn, 1) := by decide +kernel
theorem d0_53 : decode method_2_code 53 = .ok (.iload_n 0, 1) := by decide +kernel
theorem d0_54 : decode method_2_code 54 = .ok (.bipush 6, 2) := by decide +kernel
theorem d0_56 : decode method_2_code 56 = .ok (.if_icmp .ne 7, 3) := by decide +kernel
theorem d0_59 : decode method_2_code 59 = .ok (.getstatic 28, 3) := by decide +kernel
theorem d0_62 : decode method_2_code 62 = .ok (.areturn, 1) := by decide +kernel
theorem d0_63 : decode method_2_code 63 = .ok (.iload_n 0, 1) := by decide +kernel
theorem d0_64 : decode method_2_code 64 = .ok (.bipush 7, 2) := by decide +kernel
theorem d0_66 : decode method_2_code 66 = .ok (.if_icmp .ne 7, 3) := by decide +kernel
theorem d0_69 : decode method_2_code 69 = .ok (.getstatic 31, 3) := by decide +kernel
theorem d0_72 : decode method_2_code 72 = .ok (.areturn, 1) := by decide +kernel
theorem d0_73 : decode method_2_code 73 = .ok (.getstatic 34, 3) := by decide +kernel
theorem d0_76 : decode method_2_code 76 = .ok (.areturn, 1) := by decide +kernel
theorem d1_0 : decode prog_102_method_4_code 0 = .ok (.aload_n 0, 1) := by decide +kernel
theorem d1_1 : decode prog_102_method_4_code 1 = .ok (.getstatic 22, 3) := by decide +kernel
theorem d1_4 : decode prog_102_method_4_code 4 = .ok (.if_acmp .eq 21, 3) := by decide +kernel
theorem d1_7 : decode prog_102_method_4_code 7 = .ok (.aload_n 0, 1) := by decide +kernel
theorem d1_8 : decode prog_102_method_4_code 8 = .ok (.getstatic 25, 3) := by decide +kernel
theorem d1_11 : decode prog_102_method_4_code 11 = .ok (.if_acmp .eq 14, 3) := by decide +kernel
theorem d1_14 : decode prog_102_method_4_code 14 = .ok (.aload_n 0, 1) := by decide +kernel
theorem d1_15 : decode prog_102_method_4_code 15 = .ok (.getstatic 28, 3) := by decide +kernel
theorem d1_18 : decode prog_102_method_4_code 18 = .ok (.if_acmp .eq 7, 3) := by decide +kernel
theorem d1_21 : decode prog_102_method_4_code 21 = .ok (.iconst 1, 1) := by decide +kernel
theorem d1_22 : decode prog_102_method_4_code 22 = .ok (.goto 4, 3) := by decide +kernel
theorem d1_25 : decode prog_102_method_4_code 25 = .ok (.iconst 0, 1) := by decide +kernel
theorem d1_26 : decode prog_102_method_4_code 26 = .ok (.ireturn, 1) := by decide +kernel
theorem pn0 : plainName "com/example/plainwire/plainwire/rfc806/KindBarePinLaw" = true := by first | (simp [plainName, overriddenIn]; done) | decide +kernel
theorem pn1 : plainName "com/example/plainwire/plainwire/rfc806/Element$Kind" = true := by first | (simp [plainName, overriddenIn]; done) | decide +kernel
theorem pn2 : plainName "com/example/plainwire/plainwire/rfc806/KindBarePinLaw" = true := by first | (simp [plainName, overriddenIn]; done) | decide +kernel
theorem pd0 : parseMethodDescriptor "(I)Lcom/example/plainwire/plainwire/rfc806/Element$Kind;" = some ⟨[.int], some (.object "com/example/plainwire/plainwire/rfc806/Element$Kind")⟩ := by decide +kernel
theorem pd1 : parseMethodDescriptor "()Z" = some ⟨[], some .boolean⟩ := by decide +kernel
def QV (val : Value) (h0 : Heap) (n0 : Nat) (v : Option Value) (h : Heap) (L : List Loc) : Prop := v = some val ∧ Fr n0 L ∧ h = h0
def Ctx (Z : State) (h0 : Heap) (s_NULL : Addr) (s_BITS : Addr) (s_OPAQUE : Addr) (s_CONSTRUCTOR : Addr) (s_END : Addr) (s_STRING : Addr) (s_BOOLEAN : Addr) (s_INTEGER : Addr) (s_OCTETS : Addr) : Prop :=
  Sta Z h0 "com/example/plainwire/plainwire/rfc806/Element$Kind" "NULL" "Lcom/example/plainwire/plainwire/rfc806/Element$Kind;" (.ref s_NULL) ∧
  Sta Z h0 "com/example/plainwire/plainwire/rfc806/Element$Kind" "BITS" "Lcom/example/plainwire/plainwire/rfc806/Element$Kind;" (.ref s_BITS) ∧
  s_BITS ≠ s_NULL ∧
  Sta Z h0 "com/example/plainwire/plainwire/rfc806/Element$Kind" "OPAQUE" "Lcom/example/plainwire/plainwire/rfc806/Element$Kind;" (.ref s_OPAQUE) ∧
  s_NULL ≠ s_OPAQUE ∧
  Sta Z h0 "com/example/plainwire/plainwire/rfc806/Element$Kind" "CONSTRUCTOR" "Lcom/example/plainwire/plainwire/rfc806/Element$Kind;" (.ref s_CONSTRUCTOR) ∧
  s_CONSTRUCTOR ≠ s_NULL ∧
  Exa Z h0 s_NULL "com/example/plainwire/plainwire/rfc806/Element$Kind" ∧
  Sta Z h0 "com/example/plainwire/plainwire/rfc806/Element$Kind" "END" "Lcom/example/plainwire/plainwire/rfc806/Element$Kind;" (.ref s_END) ∧
  s_BITS ≠ s_END ∧
  s_END ≠ s_OPAQUE ∧
  s_CONSTRUCTOR ≠ s_END ∧
  Exa Z h0 s_END "com/example/plainwire/plainwire/rfc806/Element$Kind" ∧
  Sta Z h0 "com/example/plainwire/plainwire/rfc806/Element$Kind" "STRING" "Lcom/example/plainwire/plainwire/rfc806/Element$Kind;" (.ref s_STRING) ∧
  s_BITS ≠ s_STRING ∧
  s_OPAQUE ≠ s_STRING ∧
  s_CONSTRUCTOR ≠ s_STRING ∧
  Exa Z h0 s_STRING "com/example/plainwire/plainwire/rfc806/Element$Kind" ∧
  Sta Z h0 "com/example/plainwire/plainwire/rfc806/Element$Kind" "BOOLEAN" "Lcom/example/plainwire/plainwire/rfc806/Element$Kind;" (.ref s_BOOLEAN) ∧
  s_BITS ≠ s_BOOLEAN ∧
  s_BOOLEAN ≠ s_OPAQUE ∧
  s_BOOLEAN ≠ s_CONSTRUCTOR ∧
  Exa Z h0 s_BOOLEAN "com/example/plainwire/plainwire/rfc806/Element$Kind" ∧
  Sta Z h0 "com/example/plainwire/plainwire/rfc806/Element$Kind" "INTEGER" "Lcom/example/plainwire/plainwire/rfc806/Element$Kind;" (.ref s_INTEGER) ∧
  s_BITS ≠ s_INTEGER ∧
  s_INTEGER ≠ s_OPAQUE ∧
  s_CONSTRUCTOR ≠ s_INTEGER ∧
  Exa Z h0 s_INTEGER "com/example/plainwire/plainwire/rfc806/Element$Kind" ∧
  Sta Z h0 "com/example/plainwire/plainwire/rfc806/Element$Kind" "OCTETS" "Lcom/example/plainwire/plainwire/rfc806/Element$Kind;" (.ref s_OCTETS) ∧
  s_BITS ≠ s_OCTETS ∧
  s_OCTETS ≠ s_OPAQUE ∧
  s_CONSTRUCTOR ≠ s_OCTETS ∧
  Exa Z h0 s_OCTETS "com/example/plainwire/plainwire/rfc806/Element$Kind" ∧
  Exa Z h0 s_BITS "com/example/plainwire/plainwire/rfc806/Element$Kind" ∧
  s_BITS ≠ s_OPAQUE ∧
  Exa Z h0 s_OPAQUE "com/example/plainwire/plainwire/rfc806/Element$Kind" ∧
  s_BITS ≠ s_CONSTRUCTOR ∧
  s_CONSTRUCTOR ≠ s_OPAQUE ∧
  Exa Z h0 s_CONSTRUCTOR "com/example/plainwire/plainwire/rfc806/Element$Kind"

set_option maxRecDepth 65536 in
set_option maxHeartbeats 40000000 in
theorem r0 (l : Launch) (Z : State) (a0 : Array Value) (hw : ∀ d ∈ tables_1, d.before a0 Z = true) (ws : List Jvm.Cond) (h0 : Heap) (n0 : Nat) (s_NULL : Addr) (s_BITS : Addr) (s_OPAQUE : Addr) (s_CONSTRUCTOR : Addr) (s_END : Addr) (s_STRING : Addr) (s_BOOLEAN : Addr) (s_INTEGER : Addr) (s_OCTETS : Addr) (K : Ctx Z h0 s_NULL s_BITS s_OPAQUE s_CONSTRUCTOR s_END s_STRING s_BOOLEAN s_INTEGER s_OCTETS) :
    MetFree l (⟨"com/example/plainwire/plainwire/rfc806/KindBarePinLaw", "pick", "(I)Lcom/example/plainwire/plainwire/rfc806/Element$Kind;"⟩ : MethodName) (head1 (Jvm.Cond.code (⟨"com/example/plainwire/plainwire/rfc806/KindBarePinLaw", "pick", "(I)Lcom/example/plainwire/plainwire/rfc806/Element$Kind;"⟩ : MethodName) method_2_code 1 (some (.object "com/example/plainwire/plainwire/rfc806/Element$Kind")) :: ws) ({ frames := 0, cells := 0, slots := 0, locals := 0 } : Room)) (fun a U => a = #[(.int (0 : Int32))] ∧ Z.Warmed39 U.vm ∧ U.heap = h0) (fun _ _ _ _ _ => True) (fun _ U o U' => ∃ v L, o = .returned v ∧ QV (.ref s_NULL) h0 n0 v U'.heap L ∧ FrameEnd U o U' L ({ frames := 0, cells := 0, slots := 0, locals := 0 } : Room).cells ({ frames := 0, cells := 0, slots := 0, locals := 0 } : Room).slots) := by
  obtain ⟨S_NULL, S_BITS, ne_BITS_NULL, S_OPAQUE, ne_NULL_OPAQUE, S_CONSTRUCTOR, ne_CONSTRUCTOR_NULL, E_NULL, S_END, ne_BITS_END, ne_END_OPAQUE, ne_CONSTRUCTOR_END, E_END, S_STRING, ne_BITS_STRING, ne_OPAQUE_STRING, ne_CONSTRUCTOR_STRING, E_STRING, S_BOOLEAN, ne_BITS_BOOLEAN, ne_BOOLEAN_OPAQUE, ne_BOOLEAN_CONSTRUCTOR, E_BOOLEAN, S_INTEGER, ne_BITS_INTEGER, ne_INTEGER_OPAQUE, ne_CONSTRUCTOR_INTEGER, E_INTEGER, S_OCTETS, ne_BITS_OCTETS, ne_OCTETS_OPAQUE, ne_CONSTRUCTOR_OCTETS, E_OCTETS, E_BITS, ne_BITS_OPAQUE, E_OPAQUE, ne_BITS_CONSTRUCTOR, ne_CONSTRUCTOR_OPAQUE, E_CONSTRUCTOR⟩ := id K
  refine MetFree.of_bodySF (plainFor_of_name pn0) hisR ?_
  intro p e s m args below meth c s₁ Bd hml0 hP hK
  obtain ⟨rfl, hZ, hh⟩ := hP
  have hx := Bd.exec
  have hby := Bd.bytes
  have hml : c.maxLocals = 1 := hml0
  have hown : s.vm.findClass "com/example/plainwire/plainwire/rfc806/KindBarePinLaw" = some m.cls := findClass_of_methodNamed Bd.named
  have X0 : Stand p l e ({ frames := 0, cells := 0, slots := 0, locals := 0 } : Room) s m #[(.int (0 : Int32))] below meth c s₁ [] 0 0 := Stand.of_body Bd
  have e0 : s₁.heap = h0 := by rw [← hh, Bd.state]; rfl
  have N0 := Fr.nil n0
  have pre0 : ∀ t, Steps p.tables e below (s₁.setTop (mkF m 0 #[.val (.int (0 : Int32))] [])) t → Steps p.tables e below (s₁.setTop (entryFrame m #[(.int (0 : Int32))] 1)) t := fun t k => castTop (by first | (simp [entryFrame, mkF, argsToLocals, Value.category]; done) | rfl) k
  obtain ⟨T1, X1, e1, st1⟩ := getS X0 hx hZ hown (host := "") (hw _ (List.mem_of_getElem? (i := 5) rfl)) Via.refl e0 S_NULL (g := (mkF m 4 #[.val (.int (0 : Int32))] [])) rfl (hb hby d0_4)
  obtain ⟨fs, hr, hrun, hended, hW, hsame⟩ := X1.leave (v := some (.ref s_NULL)) (fun h => by rw [Bd.returns] at h; cases h)
  refine ⟨_, _, pre0 _ ?_, hrun, hended, _, _, rfl, ?_, ⟨_, rfl⟩, hW, hsame.mono (by decide) (by decide)⟩
  · show Steps p.tables e below (s₁.setTop (mkF m 0 #[.val (.int (0 : Int32))] [])) _
    refine XS.iloadN X0.here hx rfl (hb hby d0_0) rfl ?_
    show Steps p.tables e below (s₁.setTop (mkF m 1 #[.val (.int (0 : Int32))] [(.int (0 : Int32))])) _
    refine XS.ifNo X0.here hx rfl (hb hby d0_1) rfl (by decide +kernel) ?_
    show Steps p.tables e below (s₁.setTop (mkF m 4 #[.val (.int (0 : Int32))] [])) _
    refine st1 _ ?_
    show Steps p.tables e below (T1.setTop (mkF m 7 #[.val (.int (0 : Int32))] [(.ref s_NULL)])) _
    exact retOut X1 hx (i := .areturn) Bd.returns rfl (Or.inr (Or.inr (Or.inr (Or.inr ⟨rfl, rfl, rfl⟩)))) (hb hby d0_7) hr
  · exact ⟨rfl, N0, e1⟩
set_option maxRecDepth 65536 in
set_option maxHeartbeats 40000000 in
theorem r1 (l : Launch) (Z : State) (a0 : Array Value) (hw : ∀ d ∈ tables_1, d.before a0 Z = true) (ws : List Jvm.Cond) (h0 : Heap) (n0 : Nat) (s_NULL : Addr) (s_BITS : Addr) (s_OPAQUE : Addr) (s_CONSTRUCTOR : Addr) (s_END : Addr) (s_STRING : Addr) (s_BOOLEAN : Addr) (s_INTEGER : Addr) (s_OCTETS : Addr) (K : Ctx Z h0 s_NULL s_BITS s_OPAQUE s_CONSTRUCTOR s_END s_STRING s_BOOLEAN s_INTEGER s_OCTETS) :
    MetFree l (⟨"com/example/plainwire/plainwire/rfc806/Element$Kind", "bare", "()Z"⟩ : MethodName) (head1 (Jvm.Cond.code (⟨"com/example/plainwire/plainwire/rfc806/Element$Kind", "bare", "()Z"⟩ : MethodName) prog_102_method_4_code 1 (some .boolean) :: ws) ({ frames := 0, cells := 0, slots := 0, locals := 0 } : Room)) (fun a U => a = #[(.ref s_NULL)] ∧ Z.Warmed39 U.vm ∧ U.heap = h0) (fun _ _ _ _ _ => True) (fun _ U o U' => ∃ v L, o = .returned v ∧ QV (.int (1 : Int32)) h0 n0 v U'.heap L ∧ FrameEnd U o U' L ({ frames := 0, cells := 0, slots := 0, locals := 0 } : Room).cells ({ frames := 0, cells := 0, slots := 0, locals := 0 } : Room).slots) := by
  obtain ⟨S_NULL, S_BITS, ne_BITS_NULL, S_OPAQUE, ne_NULL_OPAQUE, S_CONSTRUCTOR, ne_CONSTRUCTOR_NULL, E_NULL, S_END, ne_BITS_END, ne_END_OPAQUE, ne_CONSTRUCTOR_END, E_END, S_STRING, ne_BITS_STRING, ne_OPAQUE_STRING, ne_CONSTRUCTOR_STRING, E_STRING, S_BOOLEAN, ne_BITS_BOOLEAN, ne_BOOLEAN_OPAQUE, ne_BOOLEAN_CONSTRUCTOR, E_BOOLEAN, S_INTEGER, ne_BITS_INTEGER, ne_INTEGER_OPAQUE, ne_CONSTRUCTOR_INTEGER, E_INTEGER, S_OCTETS, ne_BITS_OCTETS, ne_OCTETS_OPAQUE, ne_CONSTRUCTOR_OCTETS, E_OCTETS, E_BITS, ne_BITS_OPAQUE, E_OPAQUE, ne_BITS_CONSTRUCTOR, ne_CONSTRUCTOR_OPAQUE, E_CONSTRUCTOR⟩ := id K
  refine MetFree.of_bodySF (plainFor_of_name pn1) hisR ?_
  intro p e s m args below meth c s₁ Bd hml0 hP hK
  obtain ⟨rfl, hZ, hh⟩ := hP
  have hx := Bd.exec
  have hby := Bd.bytes
  have hml : c.maxLocals = 1 := hml0
  have hown : s.vm.findClass "com/example/plainwire/plainwire/rfc806/Element$Kind" = some m.cls := findClass_of_methodNamed Bd.named
  have X0 : Stand p l e ({ frames := 0, cells := 0, slots := 0, locals := 0 } : Room) s m #[(.ref s_NULL)] below meth c s₁ [] 0 0 := Stand.of_body Bd
  have e0 : s₁.heap = h0 := by rw [← hh, Bd.state]; rfl
  have N0 := Fr.nil n0
  have pre0 : ∀ t, Steps p.tables e below (s₁.setTop (mkF m 0 #[.val (.ref s_NULL)] [])) t → Steps p.tables e below (s₁.setTop (entryFrame m #[(.ref s_NULL)] 1)) t := fun t k => castTop (by first | (simp [entryFrame, mkF, argsToLocals, Value.category]; done) | rfl) k
  obtain ⟨T1, X1, e1, st1⟩ := getS X0 hx hZ hown (host := "") (hw _ (List.mem_of_getElem? (i := 13) rfl)) Via.refl e0 S_BITS (g := (mkF m 1 #[.val (.ref s_NULL)] [(.ref s_NULL)])) rfl (hb hby d1_1)
  obtain ⟨T2, X2, e2, st2⟩ := getS X1 hx hZ hown (host := "") (hw _ (List.mem_of_getElem? (i := 15) rfl)) Via.refl e1 S_OPAQUE (g := (mkF m 8 #[.val (.ref s_NULL)] [(.ref s_NULL)])) rfl (hb hby d1_8)
  obtain ⟨T3, X3, e3, st3⟩ := getS X2 hx hZ hown (host := "") (hw _ (List.mem_of_getElem? (i := 17) rfl)) Via.refl e2 S_CONSTRUCTOR (g := (mkF m 15 #[.val (.ref s_NULL)] [(.ref s_NULL)])) rfl (hb hby d1_15)
  obtain ⟨fs, hr, hrun, hended, hW, hsame⟩ := X3.leave (v := some (.int (1 : Int32))) (fun h => by rw [Bd.returns] at h; cases h)
  refine ⟨_, _, pre0 _ ?_, hrun, hended, _, _, rfl, ?_, ⟨_, rfl⟩, hW, hsame.mono (by decide) (by decide)⟩
  · show Steps p.tables e below (s₁.setTop (mkF m 0 #[.val (.ref s_NULL)] [])) _
    refine XS.aloadN X0.here hx rfl (hb hby d1_0) rfl rfl ?_
    show Steps p.tables e below (s₁.setTop (mkF m 1 #[.val (.ref s_NULL)] [(.ref s_NULL)])) _
    refine st1 _ ?_
    show Steps p.tables e below (T1.setTop (mkF m 4 #[.val (.ref s_NULL)] [(.ref s_BITS), (.ref s_NULL)])) _
    refine Jvm.RoadKit.acmp (g := (mkF m 4 #[.val (.ref s_NULL)] [(.ref s_BITS), (.ref s_NULL)])) X1 hx rfl rfl rfl (pc0 := 4) (pc' := 7) (same := false) rfl (hb hby d1_4) rfl (decide_eq_false fun q => (Ne.symm ne_BITS_NULL) (Value.ref.inj q)) (by decide) (by decide) ?_
    show Steps p.tables e below (T1.setTop (mkF m 7 #[.val (.ref s_NULL)] [])) _
    refine XS.aloadN X1.here hx rfl (hb hby d1_7) rfl rfl ?_
    show Steps p.tables e below (T1.setTop (mkF m 8 #[.val (.ref s_NULL)] [(.ref s_NULL)])) _
    refine st2 _ ?_
    show Steps p.tables e below (T2.setTop (mkF m 11 #[.val (.ref s_NULL)] [(.ref s_OPAQUE), (.ref s_NULL)])) _
    refine Jvm.RoadKit.acmp (g := (mkF m 11 #[.val (.ref s_NULL)] [(.ref s_OPAQUE), (.ref s_NULL)])) X2 hx rfl rfl rfl (pc0 := 11) (pc' := 14) (same := false) rfl (hb hby d1_11) rfl (decide_eq_false fun q => ne_NULL_OPAQUE (Value.ref.inj q)) (by decide) (by decide) ?_
    show Steps p.tables e below (T2.setTop (mkF m 14 #[.val (.ref s_NULL)] [])) _
    refine XS.aloadN X2.here hx rfl (hb hby d1_14) rfl rfl ?_
    show Steps p.tables e below (T2.setTop (mkF m 15 #[.val (.ref s_NULL)] [(.ref s_NULL)])) _
    refine st3 _ ?_
    show Steps p.tables e below (T3.setTop (mkF m 18 #[.val (.ref s_NULL)] [(.ref s_CONSTRUCTOR), (.ref s_NULL)])) _
    refine Jvm.RoadKit.acmp (g := (mkF m 18 #[.val (.ref s_NULL)] [(.ref s_CONSTRUCTOR), (.ref s_NULL)])) X3 hx rfl rfl rfl (pc0 := 18) (pc' := 21) (same := false) rfl (hb hby d1_18) rfl (decide_eq_false fun q => (Ne.symm ne_CONSTRUCTOR_NULL) (Value.ref.inj q)) (by decide) (by decide) ?_
    show Steps p.tables e below (T3.setTop (mkF m 21 #[.val (.ref s_NULL)] [])) _
    refine XS.iconst X3.here hx rfl (hb hby d1_21) ?_
    show Steps p.tables e below (T3.setTop (mkF m 22 #[.val (.ref s_NULL)] [(.int (1 : Int32))])) _
    refine XS.goto X3.here hx rfl (pc0 := 22) (pc' := 26) rfl (hb hby d1_22) (by decide) (by decide) ?_
    show Steps p.tables e below (T3.setTop (mkF m 26 #[.val (.ref s_NULL)] [(.int (1 : Int32))])) _
    exact retN X3 hx (t := .boolean) Bd.returns (by simp) (hb hby d1_26) hr
  · exact ⟨rfl, N0, e3⟩
set_option maxRecDepth 65536 in
set_option maxHeartbeats 40000000 in
theorem law_k0 (l : Launch) (Z : State) (a0 : Array Value) (hw : ∀ d ∈ tables_1, d.before a0 Z = true) (ws : List Jvm.Cond) (h0 : Heap) (n0 : Nat) (s_NULL : Addr) (s_BITS : Addr) (s_OPAQUE : Addr) (s_CONSTRUCTOR : Addr) (s_END : Addr) (s_STRING : Addr) (s_BOOLEAN : Addr) (s_INTEGER : Addr) (s_OCTETS : Addr) (K : Ctx Z h0 s_NULL s_BITS s_OPAQUE s_CONSTRUCTOR s_END s_STRING s_BOOLEAN s_INTEGER s_OCTETS) (p0 : Int32) (hp0 : ((p0 &&& (2147483647 : Int32)) % (9 : Int32)) = (0 : Int32)) :
    MetFree l x (head1 (Jvm.Cond.code x code maxLocals ret :: ws) room_1) (fun a U => a = #[(.int p0)] ∧ Z.Warmed39 U.vm ∧ U.heap = h0) (fun _ _ _ _ _ => True) (fun _ U o U' => ∃ v L, o = .returned v ∧ QV (.int (1 : Int32)) h0 n0 v U'.heap L ∧ FrameEnd U o U' L room_1.cells room_1.slots) := by
  obtain ⟨S_NULL, S_BITS, ne_BITS_NULL, S_OPAQUE, ne_NULL_OPAQUE, S_CONSTRUCTOR, ne_CONSTRUCTOR_NULL, E_NULL, S_END, ne_BITS_END, ne_END_OPAQUE, ne_CONSTRUCTOR_END, E_END, S_STRING, ne_BITS_STRING, ne_OPAQUE_STRING, ne_CONSTRUCTOR_STRING, E_STRING, S_BOOLEAN, ne_BITS_BOOLEAN, ne_BOOLEAN_OPAQUE, ne_BOOLEAN_CONSTRUCTOR, E_BOOLEAN, S_INTEGER, ne_BITS_INTEGER, ne_INTEGER_OPAQUE, ne_CONSTRUCTOR_INTEGER, E_INTEGER, S_OCTETS, ne_BITS_OCTETS, ne_OCTETS_OPAQUE, ne_CONSTRUCTOR_OCTETS, E_OCTETS, E_BITS, ne_BITS_OPAQUE, E_OPAQUE, ne_BITS_CONSTRUCTOR, ne_CONSTRUCTOR_OPAQUE, E_CONSTRUCTOR⟩ := id K
  refine MetFree.of_bodySF (plainFor_of_name pn2) hisR ?_
  intro p e s m args below meth c s₁ Bd hml0 hP hK
  obtain ⟨rfl, hZ, hh⟩ := hP
  have hx := Bd.exec
  have hby := Bd.bytes
  have hml : c.maxLocals = 4 := hml0
  have hown : s.vm.findClass "com/example/plainwire/plainwire/rfc806/KindBarePinLaw" = some m.cls := findClass_of_methodNamed Bd.named
  have X0 : Stand p l e room_1 s m #[(.int p0)] below meth c s₁ [] 0 0 := Stand.of_body Bd
  have e0 : s₁.heap = h0 := by rw [← hh, Bd.state]; rfl
  have N0 := Fr.nil n0
  have pre0 : ∀ t, Steps p.tables e below (s₁.setTop (mkF m 0 #[.val (.int p0), .unset, .unset, .unset] [])) t → Steps p.tables e below (s₁.setTop (entryFrame m #[(.int p0)] maxLocals)) t := fun t k => castTop (by first | (simp [entryFrame, mkF, argsToLocals, Value.category, maxLocals]; done) | rfl) k
  obtain ⟨_, _, ⟨T1, L1, k1, n1⟩, -, X1, ⟨Lc1, hQ1, l1, y1, z1⟩, st1⟩ := Jvm.LawKit.callS X0 hx (y := (⟨"com/example/plainwire/plainwire/rfc806/KindBarePinLaw", "pick", "(I)Lcom/example/plainwire/plainwire/rfc806/Element$Kind;"⟩ : MethodName)) hown (mvT hZ (hw _ (List.mem_of_getElem? (i := 1) rfl))) (mvT hZ (hw _ (List.mem_of_getElem? (i := 2) rfl))) (mvT hZ (hw _ (List.mem_of_getElem? (i := 3) rfl))) (mvT hZ (hw _ (List.mem_of_getElem? (i := 4) rfl))) (by decide) (backOf (W := 0) (r0 l Z a0 hw [] h0 n0 s_NULL s_BITS s_OPAQUE s_CONSTRUCTOR s_END s_STRING s_BOOLEAN s_INTEGER s_OCTETS K) hZ (hw _ (List.mem_of_getElem? (i := 4) rfl)) (hw _ (List.mem_of_getElem? (i := 3) rfl)) (by decide) (by decide)) (g := (mkF m 9 #[.val (.int p0), .val (.int (0 : Int32)), .unset, .unset] [(.int (0 : Int32))])) rfl (by rw [hml]; rfl) (argsL := [(.int (0 : Int32))]) (rest := []) (lenOf pd0 rfl) rfl (by show 2 * 0 + _ ≤ _; exact Nat.le_of_eq rfl) (hb hby at_9) (fun _ _ => ⟨rfl, e0, (by decide : 0 + 0 ≤ _), (by decide : 0 + 0 ≤ _)⟩)
  dsimp only [Pt.U, Pt.locs, Pt.cells, Pt.slots] at X1 l1 y1 z1 st1 hQ1
  subst l1 y1 z1
  obtain ⟨rfl, N1q, e1⟩ := hQ1
  have N1 := Fr.app N0 N1q
  obtain ⟨cq2, kq2, q2a, q2b, q2c⟩ := isOf hZ e1 E_NULL
  obtain ⟨_, _, ⟨T2, L2, k2, n2⟩, -, X2, ⟨Lc2, hQ2, l2, y2, z2⟩, st2⟩ := X1.virtualBack hx (y := (⟨"com/example/plainwire/plainwire/rfc806/Element$Kind", "bare", "()Z"⟩ : MethodName)) (z := (⟨"com/example/plainwire/plainwire/rfc806/Element$Kind", "bare", "()Z"⟩ : MethodName)) hown (mvT hZ (hw _ (List.mem_of_getElem? (i := 8) rfl))) (mvT hZ (hw _ (List.mem_of_getElem? (i := 9) rfl))) (notFace_of_selects (args := #[]) (mvT hZ (hw _ (List.mem_of_getElem? (i := 11) rfl)))) (mvT hZ (hw _ (List.mem_of_getElem? (i := 11) rfl))) (mvT hZ (hw _ (List.mem_of_getElem? (i := 10) rfl))) (by decide) (backOf (W := 0) (r1 l Z a0 hw [] h0 n0 s_NULL s_BITS s_OPAQUE s_CONSTRUCTOR s_END s_STRING s_BOOLEAN s_INTEGER s_OCTETS K) hZ (hw _ (List.mem_of_getElem? (i := 12) rfl)) (hw _ (List.mem_of_getElem? (i := 6) rfl)) (by decide) (by decide)) q2a q2c (g := (mkF m 26 #[.val (.int p0), .val (.int (0 : Int32)), .val (.ref s_NULL), .val (.int (1 : Int32))] [(.ref s_NULL)])) rfl (by rw [hml]; rfl) (Steps.refl _) (argsL := []) (rest := []) (lenOf pd1 rfl) rfl (by show 2 * 0 + _ ≤ _; exact Nat.le_of_eq rfl) (hb hby at_26) (fun _ _ => ⟨rfl, e1, (by decide : 0 + 0 ≤ _), (by decide : 0 + 0 ≤ _)⟩)
  dsimp only [Pt.U, Pt.locs, Pt.cells, Pt.slots] at X2 l2 y2 z2 st2 hQ2
  subst l2 y2 z2
  obtain ⟨rfl, N2q, e2⟩ := hQ2
  have N2 := Fr.app N1 N2q
  obtain ⟨fs, hr, hrun, hended, hW, hsame⟩ := X2.leave (v := some (.int (1 : Int32))) (fun h => by rw [Bd.returns] at h; cases h)
  refine ⟨_, _, pre0 _ ?_, hrun, hended, _, _, rfl, ?_, ⟨_, rfl⟩, hW, hsame.mono (by decide) (by decide)⟩
  · show Steps p.tables e below (s₁.setTop (mkF m 0 #[.val (.int p0), .unset, .unset, .unset] [])) _
    refine XS.iloadN X0.here hx rfl (hb hby at_0) rfl ?_
    show Steps p.tables e below (s₁.setTop (mkF m 1 #[.val (.int p0), .unset, .unset, .unset] [(.int p0)])) _
    refine X0.ldcInt hx hown (mvT hZ (hw _ (List.mem_of_getElem? (i := 0) rfl))) (g := (mkF m 1 #[.val (.int p0), .unset, .unset, .unset] [(.int p0)])) rfl (hb hby at_1) _ ?_
    show Steps p.tables e below (s₁.setTop (mkF m 3 #[.val (.int p0), .unset, .unset, .unset] [(.int (2147483647 : Int32)), (.int p0)])) _
    refine XS.iand X0.here hx rfl (hb hby at_3) rfl ?_
    show Steps p.tables e below (s₁.setTop (mkF m 4 #[.val (.int p0), .unset, .unset, .unset] [(.int (p0 &&& (2147483647 : Int32)))])) _
    refine XS.bipush X0.here hx rfl (hb hby at_4) ?_
    show Steps p.tables e below (s₁.setTop (mkF m 6 #[.val (.int p0), .unset, .unset, .unset] [(.int (9 : Int32)), (.int (p0 &&& (2147483647 : Int32)))])) _
    refine Jvm.RoadKit.iremM X0 hx rfl (hb hby at_6) rfl (by decide) ?_
    show Steps p.tables e below (s₁.setTop (mkF m 7 #[.val (.int p0), .unset, .unset, .unset] [(.int ((p0 &&& (2147483647 : Int32)) % (9 : Int32)))])) _
    rw [hp0]
    show Steps p.tables e below (s₁.setTop (mkF m 7 #[.val (.int p0), .unset, .unset, .unset] [(.int (0 : Int32))])) _
    refine XS.istoreN X0.here hx rfl (hb hby at_7) rfl (l' := #[.val (.int p0), .val (.int (0 : Int32)), .unset, .unset]) rfl ?_
    show Steps p.tables e below (s₁.setTop (mkF m 8 #[.val (.int p0), .val (.int (0 : Int32)), .unset, .unset] [])) _
    refine XS.iloadN X0.here hx rfl (hb hby at_8) rfl ?_
    show Steps p.tables e below (s₁.setTop (mkF m 9 #[.val (.int p0), .val (.int (0 : Int32)), .unset, .unset] [(.int (0 : Int32))])) _
    refine st1 _ ?_
    show Steps p.tables e below (T1.setTop (mkF m 12 #[.val (.int p0), .val (.int (0 : Int32)), .unset, .unset] [(.ref s_NULL)])) _
    refine XS.astoreN X1.here hx rfl (hb hby at_12) rfl rfl (l' := #[.val (.int p0), .val (.int (0 : Int32)), .val (.ref s_NULL), .unset]) rfl ?_
    show Steps p.tables e below (T1.setTop (mkF m 13 #[.val (.int p0), .val (.int (0 : Int32)), .val (.ref s_NULL), .unset] [])) _
    refine XS.iloadN X1.here hx rfl (hb hby at_13) rfl ?_
    show Steps p.tables e below (T1.setTop (mkF m 14 #[.val (.int p0), .val (.int (0 : Int32)), .val (.ref s_NULL), .unset] [(.int (0 : Int32))])) _
    refine XS.bipush X1.here hx rfl (hb hby at_14) ?_
    show Steps p.tables e below (T1.setTop (mkF m 16 #[.val (.int p0), .val (.int (0 : Int32)), .val (.ref s_NULL), .unset] [(.int (6 : Int32)), (.int (0 : Int32))])) _
    refine XS.icmpNo X1.here hx rfl (hb hby at_16) rfl (by decide +kernel) ?_
    show Steps p.tables e below (T1.setTop (mkF m 19 #[.val (.int p0), .val (.int (0 : Int32)), .val (.ref s_NULL), .unset] [])) _
    refine XS.iconst X1.here hx rfl (hb hby at_19) ?_
    show Steps p.tables e below (T1.setTop (mkF m 20 #[.val (.int p0), .val (.int (0 : Int32)), .val (.ref s_NULL), .unset] [(.int (1 : Int32))])) _
    refine XS.goto X1.here hx rfl (pc0 := 20) (pc' := 24) rfl (hb hby at_20) (by decide) (by decide) ?_
    show Steps p.tables e below (T1.setTop (mkF m 24 #[.val (.int p0), .val (.int (0 : Int32)), .val (.ref s_NULL), .unset] [(.int (1 : Int32))])) _
    refine XS.istoreN X1.here hx rfl (hb hby at_24) rfl (l' := #[.val (.int p0), .val (.int (0 : Int32)), .val (.ref s_NULL), .val (.int (1 : Int32))]) rfl ?_
    show Steps p.tables e below (T1.setTop (mkF m 25 #[.val (.int p0), .val (.int (0 : Int32)), .val (.ref s_NULL), .val (.int (1 : Int32))] [])) _
    refine XS.aloadN X1.here hx rfl (hb hby at_25) rfl rfl ?_
    show Steps p.tables e below (T1.setTop (mkF m 26 #[.val (.int p0), .val (.int (0 : Int32)), .val (.ref s_NULL), .val (.int (1 : Int32))] [(.ref s_NULL)])) _
    refine st2.trans ?_
    show Steps p.tables e below (T2.setTop (mkF m 29 #[.val (.int p0), .val (.int (0 : Int32)), .val (.ref s_NULL), .val (.int (1 : Int32))] [(.int (1 : Int32))])) _
    refine XS.iloadN X2.here hx rfl (hb hby at_29) rfl ?_
    show Steps p.tables e below (T2.setTop (mkF m 30 #[.val (.int p0), .val (.int (0 : Int32)), .val (.ref s_NULL), .val (.int (1 : Int32))] [(.int (1 : Int32)), (.int (1 : Int32))])) _
    refine XS.icmpNo X2.here hx rfl (hb hby at_30) rfl (by decide +kernel) ?_
    show Steps p.tables e below (T2.setTop (mkF m 33 #[.val (.int p0), .val (.int (0 : Int32)), .val (.ref s_NULL), .val (.int (1 : Int32))] [])) _
    refine XS.iconst X2.here hx rfl (hb hby at_33) ?_
    show Steps p.tables e below (T2.setTop (mkF m 34 #[.val (.int p0), .val (.int (0 : Int32)), .val (.ref s_NULL), .val (.int (1 : Int32))] [(.int (1 : Int32))])) _
    refine XS.goto X2.here hx rfl (pc0 := 34) (pc' := 38) rfl (hb hby at_34) (by decide) (by decide) ?_
    show Steps p.tables e below (T2.setTop (mkF m 38 #[.val (.int p0), .val (.int (0 : Int32)), .val (.ref s_NULL), .val (.int (1 : Int32))] [(.int (1 : Int32))])) _
    exact retN X2 hx (t := .boolean) Bd.returns (by simp) (hb hby at_38) hr
  · exact ⟨rfl, N2, e2⟩
set_option maxRecDepth 65536 in
set_option maxHeartbeats 40000000 in
theorem r3 (l : Launch) (Z : State) (a0 : Array Value) (hw : ∀ d ∈ tables_1, d.before a0 Z = true) (ws : List Jvm.Cond) (h0 : Heap) (n0 : Nat) (s_NULL : Addr) (s_BITS : Addr) (s_OPAQUE : Addr) (s_CONSTRUCTOR : Addr) (s_END : Addr) (s_STRING : Addr) (s_BOOLEAN : Addr) (s_INTEGER : Addr) (s_OCTETS : Addr) (K : Ctx Z h0 s_NULL s_BITS s_OPAQUE s_CONSTRUCTOR s_END s_STRING s_BOOLEAN s_INTEGER s_OCTETS) :
    MetFree l (⟨"com/example/plainwire/plainwire/rfc806/KindBarePinLaw", "pick", "(I)Lcom/example/plainwire/plainwire/rfc806/Element$Kind;"⟩ : MethodName) (head1 (Jvm.Cond.code (⟨"com/example/plainwire/plainwire/rfc806/KindBarePinLaw", "pick", "(I)Lcom/example/plainwire/plainwire/rfc806/Element$Kind;"⟩ : MethodName) method_2_code 1 (some (.object "com/example/plainwire/plainwire/rfc806/Element$Kind")) :: ws) ({ frames := 0, cells := 0, slots := 0, locals := 0 } : Room)) (fun a U => a = #[(.int (1 : Int32))] ∧ Z.Warmed39 U.vm ∧ U.heap = h0) (fun _ _ _ _ _ => True) (fun _ U o U' => ∃ v L, o = .returned v ∧ QV (.ref s_END) h0 n0 v U'.heap L ∧ FrameEnd U o U' L ({ frames := 0, cells := 0, slots := 0, locals := 0 } : Room).cells ({ frames := 0, cells := 0, slots := 0, locals := 0 } : Room).slots) := by
  obtain ⟨S_NULL, S_BITS, ne_BITS_NULL, S_OPAQUE, ne_NULL_OPAQUE, S_CONSTRUCTOR, ne_CONSTRUCTOR_NULL, E_NULL, S_END, ne_BITS_END, ne_END_OPAQUE, ne_CONSTRUCTOR_END, E_END, S_STRING, ne_BITS_STRING, ne_OPAQUE_STRING, ne_CONSTRUCTOR_STRING, E_STRING, S_BOOLEAN, ne_BITS_BOOLEAN, ne_BOOLEAN_OPAQUE, ne_BOOLEAN_CONSTRUCTOR, E_BOOLEAN, S_INTEGER, ne_BITS_INTEGER, ne_INTEGER_OPAQUE, ne_CONSTRUCTOR_INTEGER, E_INTEGER, S_OCTETS, ne_BITS_OCTETS, ne_OCTETS_OPAQUE, ne_CONSTRUCTOR_OCTETS, E_OCTETS, E_BITS, ne_BITS_OPAQUE, E_OPAQUE, ne_BITS_CONSTRUCTOR, ne_CONSTRUCTOR_OPAQUE, E_CONSTRUCTOR⟩ := id K
  refine MetFree.of_bodySF (plainFor_of_name pn0) hisR ?_
  intro p e s m args below meth c s₁ Bd hml0 hP hK
  obtain ⟨rfl, hZ, hh⟩ := hP
  have hx := Bd.exec
  have hby := Bd.bytes
  have hml : c.maxLocals = 1 := hml0
  have hown : s.vm.findClass "com/example/plainwire/plainwire/rfc806/KindBarePinLaw" = some m.cls := findClass_of_methodNamed Bd.named
  have X0 : Stand p l e ({ frames := 0, cells := 0, slots := 0, locals := 0 } : Room) s m #[(.int (1 : Int32))] below meth c s₁ [] 0 0 := Stand.of_body Bd
  have e0 : s₁.heap = h0 := by rw [← hh, Bd.state]; rfl
  have N0 := Fr.nil n0
  have pre0 : ∀ t, Steps p.tables e below (s₁.setTop (mkF m 0 #[.val (.int (1 : Int32))] [])) t → Steps p.tables e below (s₁.setTop (entryFrame m #[(.int (1 : Int32))] 1)) t := fun t k => castTop (by first | (simp [entryFrame, mkF, argsToLocals, Value.category]; done) | rfl) k
  obtain ⟨T1, X1, e1, st1⟩ := getS X0 hx hZ hown (host := "") (hw _ (List.mem_of_getElem? (i := 23) rfl)) Via.refl e0 S_END (g := (mkF m 13 #[.val (.int (1 : Int32))] [])) rfl (hb hby d0_13)
  obtain ⟨fs, hr, hrun, hended, hW, hsame⟩ := X1.leave (v := some (.ref s_END)) (fun h => by rw [Bd.returns] at h; cases h)
  refine ⟨_, _, pre0 _ ?_, hrun, hended, _, _, rfl, ?_, ⟨_, rfl⟩, hW, hsame.mono (by decide) (by decide)⟩
  · show Steps p.tables e below (s₁.setTop (mkF m 0 #[.val (.int (1 : Int32))] [])) _
    refine XS.iloadN X0.here hx rfl (hb hby d0_0) rfl ?_
    show Steps p.tables e below (s₁.setTop (mkF m 1 #[.val (.int (1 : Int32))] [(.int (1 : Int32))])) _
    refine XS.ifYes X0.here hx rfl (pc0 := 1) (pc' := 8) rfl (hb hby d0_1) rfl (by decide +kernel) (by decide) (by decide) ?_
    show Steps p.tables e below (s₁.setTop (mkF m 8 #[.val (.int (1 : Int32))] [])) _
    refine XS.iloadN X0.here hx rfl (hb hby d0_8) rfl ?_
    show Steps p.tables e below (s₁.setTop (mkF m 9 #[.val (.int (1 : Int32))] [(.int (1 : Int32))])) _
    refine XS.iconst X0.here hx rfl (hb hby d0_9) ?_
    show Steps p.tables e below (s₁.setTop (mkF m 10 #[.val (.int (1 : Int32))] [(.int (1 : Int32)), (.int (1 : Int32))])) _
    refine XS.icmpNo X0.here hx rfl (hb hby d0_10) rfl (by decide +kernel) ?_
    show Steps p.tables e below (s₁.setTop (mkF m 13 #[.val (.int (1 : Int32))] [])) _
    refine st1 _ ?_
    show Steps p.tables e below (T1.setTop (mkF m 16 #[.val (.int (1 : Int32))] [(.ref s_END)])) _
    exact retOut X1 hx (i := .areturn) Bd.returns rfl (Or.inr (Or.inr (Or.inr (Or.inr ⟨rfl, rfl, rfl⟩)))) (hb hby d0_16) hr
  · exact ⟨rfl, N0, e1⟩
set_option maxRecDepth 65536 in
set_option maxHeartbeats 40000000 in
theorem r4 (l : Launch) (Z : State) (a0 : Array Value) (hw : ∀ d ∈ tables_1, d.before a0 Z = true) (ws : List Jvm.Cond) (h0 : Heap) (n0 : Nat) (s_NULL : Addr) (s_BITS : Addr) (s_OPAQUE : Addr) (s_CONSTRUCTOR : Addr) (s_END : Addr) (s_STRING : Addr) (s_BOOLEAN : Addr) (s_INTEGER : Addr) (s_OCTETS : Addr) (K : Ctx Z h0 s_NULL s_BITS s_OPAQUE s_CONSTRUCTOR s_END s_STRING s_BOOLEAN s_INTEGER s_OCTETS) :
    MetFree l (⟨"com/example/plainwire/plainwire/rfc806/Element$Kind", "bare", "()Z"⟩ : MethodName) (head1 (Jvm.Cond.code (⟨"com/example/plainwire/plainwire/rfc806/Element$Kind", "bare", "()Z"⟩ : MethodName) prog_102_method_4_code 1 (some .boolean) :: ws) ({ frames := 0, cells := 0, slots := 0, locals := 0 } : Room)) (fun a U => a = #[(.ref s_END)] ∧ Z.Warmed39 U.vm ∧ U.heap = h0) (fun _ _ _ _ _ => True) (fun _ U o U' => ∃ v L, o = .returned v ∧ QV (.int (1 : Int32)) h0 n0 v U'.heap L ∧ FrameEnd U o U' L ({ frames := 0, cells := 0, slots := 0, locals := 0 } : Room).cells ({ frames := 0, cells := 0, slots := 0, locals := 0 } : Room).slots) := by
  obtain ⟨S_NULL, S_BITS, ne_BITS_NULL, S_OPAQUE, ne_NULL_OPAQUE, S_CONSTRUCTOR, ne_CONSTRUCTOR_NULL, E_NULL, S_END, ne_BITS_END, ne_END_OPAQUE, ne_CONSTRUCTOR_END, E_END, S_STRING, ne_BITS_STRING, ne_OPAQUE_STRING, ne_CONSTRUCTOR_STRING, E_STRING, S_BOOLEAN, ne_BITS_BOOLEAN, ne_BOOLEAN_OPAQUE, ne_BOOLEAN_CONSTRUCTOR, E_BOOLEAN, S_INTEGER, ne_BITS_INTEGER, ne_INTEGER_OPAQUE, ne_CONSTRUCTOR_INTEGER, E_INTEGER, S_OCTETS, ne_BITS_OCTETS, ne_OCTETS_OPAQUE, ne_CONSTRUCTOR_OCTETS, E_OCTETS, E_BITS, ne_BITS_OPAQUE, E_OPAQUE, ne_BITS_CONSTRUCTOR, ne_CONSTRUCTOR_OPAQUE, E_CONSTRUCTOR⟩ := id K
  refine MetFree.of_bodySF (plainFor_of_name pn1) hisR ?_
  intro p e s m args below meth c s₁ Bd hml0 hP hK
  obtain ⟨rfl, hZ, hh⟩ := hP
  have hx := Bd.exec
  have hby := Bd.bytes
  have hml : c.maxLocals = 1 := hml0
  have hown : s.vm.findClass "com/example/plainwire/plainwire/rfc806/Element$Kind" = some m.cls := findClass_of_methodNamed Bd.named
  have X0 : Stand p l e ({ frames := 0, cells := 0, slots := 0, locals := 0 } : Room) s m #[(.ref s_END)] below meth c s₁ [] 0 0 := Stand.of_body Bd
  have e0 : s₁.heap = h0 := by rw [← hh, Bd.state]; rfl
  have N0 := Fr.nil n0
  have pre0 : ∀ t, Steps p.tables e below (s₁.setTop (mkF m 0 #[.val (.ref s_END)] [])) t → Steps p.tables e below (s₁.setTop (entryFrame m #[(.ref s_END)] 1)) t := fun t k => castTop (by first | (simp [entryFrame, mkF, argsToLocals, Value.category]; done) | rfl) k
  obtain ⟨T1, X1, e1, st1⟩ := getS X0 hx hZ hown (host := "") (hw _ (List.mem_of_getElem? (i := 13) rfl)) Via.refl e0 S_BITS (g := (mkF m 1 #[.val (.ref s_END)] [(.ref s_END)])) rfl (hb hby d1_1)
  obtain ⟨T2, X2, e2, st2⟩ := getS X1 hx hZ hown (host := "") (hw _ (List.mem_of_getElem? (i := 15) rfl)) Via.refl e1 S_OPAQUE (g := (mkF m 8 #[.val (.ref s_END)] [(.ref s_END)])) rfl (hb hby d1_8)
  obtain ⟨T3, X3, e3, st3⟩ := getS X2 hx hZ hown (host := "") (hw _ (List.mem_of_getElem? (i := 17) rfl)) Via.refl e2 S_CONSTRUCTOR (g := (mkF m 15 #[.val (.ref s_END)] [(.ref s_END)])) rfl (hb hby d1_15)
  obtain ⟨fs, hr, hrun, hended, hW, hsame⟩ := X3.leave (v := some (.int (1 : Int32))) (fun h => by rw [Bd.returns] at h; cases h)
  refine ⟨_, _, pre0 _ ?_, hrun, hended, _, _, rfl, ?_, ⟨_, rfl⟩, hW, hsame.mono (by decide) (by decide)⟩
  · show Steps p.tables e below (s₁.setTop (mkF m 0 #[.val (.ref s_END)] [])) _
    refine XS.aloadN X0.here hx rfl (hb hby d1_0) rfl rfl ?_
    show Steps p.tables e below (s₁.setTop (mkF m 1 #[.val (.ref s_END)] [(.ref s_END)])) _
    refine st1 _ ?_
    show Steps p.tables e below (T1.setTop (mkF m 4 #[.val (.ref s_END)] [(.ref s_BITS), (.ref s_END)])) _
    refine Jvm.RoadKit.acmp (g := (mkF m 4 #[.val (.ref s_END)] [(.ref s_BITS), (.ref s_END)])) X1 hx rfl rfl rfl (pc0 := 4) (pc' := 7) (same := false) rfl (hb hby d1_4) rfl (decide_eq_false fun q => (Ne.symm ne_BITS_END) (Value.ref.inj q)) (by decide) (by decide) ?_
    show Steps p.tables e below (T1.setTop (mkF m 7 #[.val (.ref s_END)] [])) _
    refine XS.aloadN X1.here hx rfl (hb hby d1_7) rfl rfl ?_
    show Steps p.tables e below (T1.setTop (mkF m 8 #[.val (.ref s_END)] [(.ref s_END)])) _
    refine st2 _ ?_
    show Steps p.tables e below (T2.setTop (mkF m 11 #[.val (.ref s_END)] [(.ref s_OPAQUE), (.ref s_END)])) _
    refine Jvm.RoadKit.acmp (g := (mkF m 11 #[.val (.ref s_END)] [(.ref s_OPAQUE), (.ref s_END)])) X2 hx rfl rfl rfl (pc0 := 11) (pc' := 14) (same := false) rfl (hb hby d1_11) rfl (decide_eq_false fun q => ne_END_OPAQUE (Value.ref.inj q)) (by decide) (by decide) ?_
    show Steps p.tables e below (T2.setTop (mkF m 14 #[.val (.ref s_END)] [])) _
    refine XS.aloadN X2.here hx rfl (hb hby d1_14) rfl rfl ?_
    show Steps p.tables e below (T2.setTop (mkF m 15 #[.val (.ref s_END)] [(.ref s_END)])) _
    refine st3 _ ?_
    show Steps p.tables e below (T3.setTop (mkF m 18 #[.val (.ref s_END)] [(.ref s_CONSTRUCTOR), (.ref s_END)])) _
    refine Jvm.RoadKit.acmp (g := (mkF m 18 #[.val (.ref s_END)] [(.ref s_CONSTRUCTOR), (.ref s_END)])) X3 hx rfl rfl rfl (pc0 := 18) (pc' := 21) (same := false) rfl (hb hby d1_18) rfl (decide_eq_false fun q => (Ne.symm ne_CONSTRUCTOR_END) (Value.ref.inj q)) (by decide) (by decide) ?_
    show Steps p.tables e below (T3.setTop (mkF m 21 #[.val (.ref s_END)] [])) _
    refine XS.iconst X3.here hx rfl (hb hby d1_21) ?_
    show Steps p.tables e below (T3.setTop (mkF m 22 #[.val (.ref s_END)] [(.int (1 : Int32))])) _
    refine XS.goto X3.here hx rfl (pc0 := 22) (pc' := 26) rfl (hb hby d1_22) (by decide) (by decide) ?_
    show Steps p.tables e below (T3.setTop (mkF m 26 #[.val (.ref s_END)] [(.int (1 : Int32))])) _
    exact retN X3 hx (t := .boolean) Bd.returns (by simp) (hb hby d1_26) hr
  · exact ⟨rfl, N0, e3⟩
set_option maxRecDepth 65536 in
set_option maxHeartbeats 40000000 in
theorem law_k1 (l : Launch) (Z : State) (a0 : Array Value) (hw : ∀ d ∈ tables_1, d.before a0 Z = true) (ws : List Jvm.Cond) (h0 : Heap) (n0 : Nat) (s_NULL : Addr) (s_BITS : Addr) (s_OPAQUE : Addr) (s_CONSTRUCTOR : Addr) (s_END : Addr) (s_STRING : Addr) (s_BOOLEAN : Addr) (s_INTEGER : Addr) (s_OCTETS : Addr) (K : Ctx Z h0 s_NULL s_BITS s_OPAQUE s_CONSTRUCTOR s_END s_STRING s_BOOLEAN s_INTEGER s_OCTETS) (p0 : Int32) (hp0 : ((p0 &&& (2147483647 : Int32)) % (9 : Int32)) = (1 : Int32)) :
    MetFree l x (head1 (Jvm.Cond.code x code maxLocals ret :: ws) room_1) (fun a U => a = #[(.int p0)] ∧ Z.Warmed39 U.vm ∧ U.heap = h0) (fun _ _ _ _ _ => True) (fun _ U o U' => ∃ v L, o = .returned v ∧ QV (.int (1 : Int32)) h0 n0 v U'.heap L ∧ FrameEnd U o U' L room_1.cells room_1.slots) := by
  obtain ⟨S_NULL, S_BITS, ne_BITS_NULL, S_OPAQUE, ne_NULL_OPAQUE, S_CONSTRUCTOR, ne_CONSTRUCTOR_NULL, E_NULL, S_END, ne_BITS_END, ne_END_OPAQUE, ne_CONSTRUCTOR_END, E_END, S_STRING, ne_BITS_STRING, ne_OPAQUE_STRING, ne_CONSTRUCTOR_STRING, E_STRING, S_BOOLEAN, ne_BITS_BOOLEAN, ne_BOOLEAN_OPAQUE, ne_BOOLEAN_CONSTRUCTOR, E_BOOLEAN, S_INTEGER, ne_BITS_INTEGER, ne_INTEGER_OPAQUE, ne_CONSTRUCTOR_INTEGER, E_INTEGER, S_OCTETS, ne_BITS_OCTETS, ne_OCTETS_OPAQUE, ne_CONSTRUCTOR_OCTETS, E_OCTETS, E_BITS, ne_BITS_OPAQUE, E_OPAQUE, ne_BITS_CONSTRUCTOR, ne_CONSTRUCTOR_OPAQUE, E_CONSTRUCTOR⟩ := id K
  refine MetFree.of_bodySF (plainFor_of_name pn2) hisR ?_
  intro p e s m args below meth c s₁ Bd hml0 hP hK
  obtain ⟨rfl, hZ, hh⟩ := hP
  have hx := Bd.exec
  have hby := Bd.bytes
  have hml : c.maxLocals = 4 := hml0
  have hown : s.vm.findClass "com/example/plainwire/plainwire/rfc806/KindBarePinLaw" = some m.cls := findClass_of_methodNamed Bd.named
  have X0 : Stand p l e room_1 s m #[(.int p0)] below meth c s₁ [] 0 0 := Stand.of_body Bd
  have e0 : s₁.heap = h0 := by rw [← hh, Bd.state]; rfl
  have N0 := Fr.nil n0
  have pre0 : ∀ t, Steps p.tables e below (s₁.setTop (mkF m 0 #[.val (.int p0), .unset, .unset, .unset] [])) t → Steps p.tables e below (s₁.setTop (entryFrame m #[(.int p0)] maxLocals)) t := fun t k => castTop (by first | (simp [entryFrame, mkF, argsToLocals, Value.category, maxLocals]; done) | rfl) k
  obtain ⟨_, _, ⟨T1, L1, k1, n1⟩, -, X1, ⟨Lc1, hQ1, l1, y1, z1⟩, st1⟩ := Jvm.LawKit.callS X0 hx (y := (⟨"com/example/plainwire/plainwire/rfc806/KindBarePinLaw", "pick", "(I)Lcom/example/plainwire/plainwire/rfc806/Element$Kind;"⟩ : MethodName)) hown (mvT hZ (hw _ (List.mem_of_getElem? (i := 1) rfl))) (mvT hZ (hw _ (List.mem_of_getElem? (i := 2) rfl))) (mvT hZ (hw _ (List.mem_of_getElem? (i := 3) rfl))) (mvT hZ (hw _ (List.mem_of_getElem? (i := 4) rfl))) (by decide) (backOf (W := 0) (r3 l Z a0 hw [] h0 n0 s_NULL s_BITS s_OPAQUE s_CONSTRUCTOR s_END s_STRING s_BOOLEAN s_INTEGER s_OCTETS K) hZ (hw _ (List.mem_of_getElem? (i := 4) rfl)) (hw _ (List.mem_of_getElem? (i := 3) rfl)) (by decide) (by decide)) (g := (mkF m 9 #[.val (.int p0), .val (.int (1 : Int32)), .unset, .unset] [(.int (1 : Int32))])) rfl (by rw [hml]; rfl) (argsL := [(.int (1 : Int32))]) (rest := []) (lenOf pd0 rfl) rfl (by show 2 * 0 + _ ≤ _; exact Nat.le_of_eq rfl) (hb hby at_9) (fun _ _ => ⟨rfl, e0, (by decide : 0 + 0 ≤ _), (by decide : 0 + 0 ≤ _)⟩)
  dsimp only [Pt.U, Pt.locs, Pt.cells, Pt.slots] at X1 l1 y1 z1 st1 hQ1
  subst l1 y1 z1
  obtain ⟨rfl, N1q, e1⟩ := hQ1
  have N1 := Fr.app N0 N1q
  obtain ⟨cq2, kq2, q2a, q2b, q2c⟩ := isOf hZ e1 E_END
  obtain ⟨_, _, ⟨T2, L2, k2, n2⟩, -, X2, ⟨Lc2, hQ2, l2, y2, z2⟩, st2⟩ := X1.virtualBack hx (y := (⟨"com/example/plainwire/plainwire/rfc806/Element$Kind", "bare", "()Z"⟩ : MethodName)) (z := (⟨"com/example/plainwire/plainwire/rfc806/Element$Kind", "bare", "()Z"⟩ : MethodName)) hown (mvT hZ (hw _ (List.mem_of_getElem? (i := 8) rfl))) (mvT hZ (hw _ (List.mem_of_getElem? (i := 9) rfl))) (notFace_of_selects (args := #[]) (mvT hZ (hw _ (List.mem_of_getElem? (i := 11) rfl)))) (mvT hZ (hw _ (List.mem_of_getElem? (i := 11) rfl))) (mvT hZ (hw _ (List.mem_of_getElem? (i := 10) rfl))) (by decide) (backOf (W := 0) (r4 l Z a0 hw [] h0 n0 s_NULL s_BITS s_OPAQUE s_CONSTRUCTOR s_END s_STRING s_BOOLEAN s_INTEGER s_OCTETS K) hZ (hw _ (List.mem_of_getElem? (i := 12) rfl)) (hw _ (List.mem_of_getElem? (i := 6) rfl)) (by decide) (by decide)) q2a q2c (g := (mkF m 26 #[.val (.int p0), .val (.int (1 : Int32)), .val (.ref s_END), .val (.int (1 : Int32))] [(.ref s_END)])) rfl (by rw [hml]; rfl) (Steps.refl _) (argsL := []) (rest := []) (lenOf pd1 rfl) rfl (by show 2 * 0 + _ ≤ _; exact Nat.le_of_eq rfl) (hb hby at_26) (fun _ _ => ⟨rfl, e1, (by decide : 0 + 0 ≤ _), (by decide : 0 + 0 ≤ _)⟩)
  dsimp only [Pt.U, Pt.locs, Pt.cells, Pt.slots] at X2 l2 y2 z2 st2 hQ2
  subst l2 y2 z2
  obtain ⟨rfl, N2q, e2⟩ := hQ2
  have N2 := Fr.app N1 N2q
  obtain ⟨fs, hr, hrun, hended, hW, hsame⟩ := X2.leave (v := some (.int (1 : Int32))) (fun h => by rw [Bd.returns] at h; cases h)
  refine ⟨_, _, pre0 _ ?_, hrun, hended, _, _, rfl, ?_, ⟨_, rfl⟩, hW, hsame.mono (by decide) (by decide)⟩
  · show Steps p.tables e below (s₁.setTop (mkF m 0 #[.val (.int p0), .unset, .unset, .unset] [])) _
    refine XS.iloadN X0.here hx rfl (hb hby at_0) rfl ?_
    show Steps p.tables e below (s₁.setTop (mkF m 1 #[.val (.int p0), .unset, .unset, .unset] [(.int p0)])) _
    refine X0.ldcInt hx hown (mvT hZ (hw _ (List.mem_of_getElem? (i := 0) rfl))) (g := (mkF m 1 #[.val (.int p0), .unset, .unset, .unset] [(.int p0)])) rfl (hb hby at_1) _ ?_
    show Steps p.tables e below (s₁.setTop (mkF m 3 #[.val (.int p0), .unset, .unset, .unset] [(.int (2147483647 : Int32)), (.int p0)])) _
    refine XS.iand X0.here hx rfl (hb hby at_3) rfl ?_
    show Steps p.tables e below (s₁.setTop (mkF m 4 #[.val (.int p0), .unset, .unset, .unset] [(.int (p0 &&& (2147483647 : Int32)))])) _
    refine XS.bipush X0.here hx rfl (hb hby at_4) ?_
    show Steps p.tables e below (s₁.setTop (mkF m 6 #[.val (.int p0), .unset, .unset, .unset] [(.int (9 : Int32)), (.int (p0 &&& (2147483647 : Int32)))])) _
    refine Jvm.RoadKit.iremM X0 hx rfl (hb hby at_6) rfl (by decide) ?_
    show Steps p.tables e below (s₁.setTop (mkF m 7 #[.val (.int p0), .unset, .unset, .unset] [(.int ((p0 &&& (2147483647 : Int32)) % (9 : Int32)))])) _
    rw [hp0]
    show Steps p.tables e below (s₁.setTop (mkF m 7 #[.val (.int p0), .unset, .unset, .unset] [(.int (1 : Int32))])) _
    refine XS.istoreN X0.here hx rfl (hb hby at_7) rfl (l' := #[.val (.int p0), .val (.int (1 : Int32)), .unset, .unset]) rfl ?_
    show Steps p.tables e below (s₁.setTop (mkF m 8 #[.val (.int p0), .val (.int (1 : Int32)), .unset, .unset] [])) _
    refine XS.iloadN X0.here hx rfl (hb hby at_8) rfl ?_
    show Steps p.tables e below (s₁.setTop (mkF m 9 #[.val (.int p0), .val (.int (1 : Int32)), .unset, .unset] [(.int (1 : Int32))])) _
    refine st1 _ ?_
    show Steps p.tables e below (T1.setTop (mkF m 12 #[.val (.int p0), .val (.int (1 : Int32)), .unset, .unset] [(.ref s_END)])) _
    refine XS.astoreN X1.here hx rfl (hb hby at_12) rfl rfl (l' := #[.val (.int p0), .val (.int (1 : Int32)), .val (.ref s_END), .unset]) rfl ?_
    show Steps p.tables e below (T1.setTop (mkF m 13 #[.val (.int p0), .val (.int (1 : Int32)), .val (.ref s_END), .unset] [])) _
    refine XS.iloadN X1.here hx rfl (hb hby at_13) rfl ?_
    show Steps p.tables e below (T1.setTop (mkF m 14 #[.val (.int p0), .val (.int (1 : Int32)), .val (.ref s_END), .unset] [(.int (1 : Int32))])) _
    refine XS.bipush X1.here hx rfl (hb hby at_14) ?_
    show Steps p.tables e below (T1.setTop (mkF m 16 #[.val (.int p0), .val (.int (1 : Int32)), .val (.ref s_END), .unset] [(.int (6 : Int32)), (.int (1 : Int32))])) _
    refine XS.icmpNo X1.here hx rfl (hb hby at_16) rfl (by decide +kernel) ?_
    show Steps p.tables e below (T1.setTop (mkF m 19 #[.val (.int p0), .val (.int (1 : Int32)), .val (.ref s_END), .unset] [])) _
    refine XS.iconst X1.here hx rfl (hb hby at_19) ?_
    show Steps p.tables e below (T1.setTop (mkF m 20 #[.val (.int p0), .val (.int (1 : Int32)), .val (.ref s_END), .unset] [(.int (1 : Int32))])) _
    refine XS.goto X1.here hx rfl (pc0 := 20) (pc' := 24) rfl (hb hby at_20) (by decide) (by decide) ?_
    show Steps p.tables e below (T1.setTop (mkF m 24 #[.val (.int p0), .val (.int (1 : Int32)), .val (.ref s_END), .unset] [(.int (1 : Int32))])) _
    refine XS.istoreN X1.here hx rfl (hb hby at_24) rfl (l' := #[.val (.int p0), .val (.int (1 : Int32)), .val (.ref s_END), .val (.int (1 : Int32))]) rfl ?_
    show Steps p.tables e below (T1.setTop (mkF m 25 #[.val (.int p0), .val (.int (1 : Int32)), .val (.ref s_END), .val (.int (1 : Int32))] [])) _
    refine XS.aloadN X1.here hx rfl (hb hby at_25) rfl rfl ?_
    show Steps p.tables e below (T1.setTop (mkF m 26 #[.val (.int p0), .val (.int (1 : Int32)), .val (.ref s_END), .val (.int (1 : Int32))] [(.ref s_END)])) _
    refine st2.trans ?_
    show Steps p.tables e below (T2.setTop (mkF m 29 #[.val (.int p0), .val (.int (1 : Int32)), .val (.ref s_END), .val (.int (1 : Int32))] [(.int (1 : Int32))])) _
    refine XS.iloadN X2.here hx rfl (hb hby at_29) rfl ?_
    show Steps p.tables e below (T2.setTop (mkF m 30 #[.val (.int p0), .val (.int (1 : Int32)), .val (.ref s_END), .val (.int (1 : Int32))] [(.int (1 : Int32)), (.int (1 : Int32))])) _
    refine XS.icmpNo X2.here hx rfl (hb hby at_30) rfl (by decide +kernel) ?_
    show Steps p.tables e below (T2.setTop (mkF m 33 #[.val (.int p0), .val (.int (1 : Int32)), .val (.ref s_END), .val (.int (1 : Int32))] [])) _
    refine XS.iconst X2.here hx rfl (hb hby at_33) ?_
    show Steps p.tables e below (T2.setTop (mkF m 34 #[.val (.int p0), .val (.int (1 : Int32)), .val (.ref s_END), .val (.int (1 : Int32))] [(.int (1 : Int32))])) _
    refine XS.goto X2.here hx rfl (pc0 := 34) (pc' := 38) rfl (hb hby at_34) (by decide) (by decide) ?_
    show Steps p.tables e below (T2.setTop (mkF m 38 #[.val (.int p0), .val (.int (1 : Int32)), .val (.ref s_END), .val (.int (1 : Int32))] [(.int (1 : Int32))])) _
    exact retN X2 hx (t := .boolean) Bd.returns (by simp) (hb hby at_38) hr
  · exact ⟨rfl, N2, e2⟩
set_option maxRecDepth 65536 in
set_option maxHeartbeats 40000000 in
theorem r6 (l : Launch) (Z : State) (a0 : Array Value) (hw : ∀ d ∈ tables_1, d.before a0 Z = true) (ws : List Jvm.Cond) (h0 : Heap) (n0 : Nat) (s_NULL : Addr) (s_BITS : Addr) (s_OPAQUE : Addr) (s_CONSTRUCTOR : Addr) (s_END : Addr) (s_STRING : Addr) (s_BOOLEAN : Addr) (s_INTEGER : Addr) (s_OCTETS : Addr) (K : Ctx Z h0 s_NULL s_BITS s_OPAQUE s_CONSTRUCTOR s_END s_STRING s_BOOLEAN s_INTEGER s_OCTETS) :
    MetFree l (⟨"com/example/plainwire/plainwire/rfc806/KindBarePinLaw", "pick", "(I)Lcom/example/plainwire/plainwire/rfc806/Element$Kind;"⟩ : MethodName) (head1 (Jvm.Cond.code (⟨"com/example/plainwire/plainwire/rfc806/KindBarePinLaw", "pick", "(I)Lcom/example/plainwire/plainwire/rfc806/Element$Kind;"⟩ : MethodName) method_2_code 1 (some (.object "com/example/plainwire/plainwire/rfc806/Element$Kind")) :: ws) ({ frames := 0, cells := 0, slots := 0, locals := 0 } : Room)) (fun a U => a = #[(.int (2 : Int32))] ∧ Z.Warmed39 U.vm ∧ U.heap = h0) (fun _ _ _ _ _ => True) (fun _ U o U' => ∃ v L, o = .returned v ∧ QV (.ref s_STRING) h0 n0 v U'.heap L ∧ FrameEnd U o U' L ({ frames := 0, cells := 0, slots := 0, locals := 0 } : Room).cells ({ frames := 0, cells := 0, slots := 0, locals := 0 } : Room).slots) := by
  obtain ⟨S_NULL, S_BITS, ne_BITS_NULL, S_OPAQUE, ne_NULL_OPAQUE, S_CONSTRUCTOR, ne_CONSTRUCTOR_NULL, E_NULL, S_END, ne_BITS_END, ne_END_OPAQUE, ne_CONSTRUCTOR_END, E_END, S_STRING, ne_BITS_STRING, ne_OPAQUE_STRING, ne_CONSTRUCTOR_STRING, E_STRING, S_BOOLEAN, ne_BITS_BOOLEAN, ne_BOOLEAN_OPAQUE, ne_BOOLEAN_CONSTRUCTOR, E_BOOLEAN, S_INTEGER, ne_BITS_INTEGER, ne_INTEGER_OPAQUE, ne_CONSTRUCTOR_INTEGER, E_INTEGER, S_OCTETS, ne_BITS_OCTETS, ne_OCTETS_OPAQUE, ne_CONSTRUCTOR_OCTETS, E_OCTETS, E_BITS, ne_BITS_OPAQUE, E_OPAQUE, ne_BITS_CONSTRUCTOR, ne_CONSTRUCTOR_OPAQUE, E_CONSTRUCTOR⟩ := id K
  refine MetFree.of_bodySF (plainFor_of_name pn0) hisR ?_
  intro p e s m args below meth c s₁ Bd hml0 hP hK
  obtain ⟨rfl, hZ, hh⟩ := hP
  have hx := Bd.exec
  have hby := Bd.bytes
  have hml : c.maxLocals = 1 := hml0
  have hown : s.vm.findClass "com/example/plainwire/plainwire/rfc806/KindBarePinLaw" = some m.cls := findClass_of_methodNamed Bd.named
  have X0 : Stand p l e ({ frames := 0, cells := 0, slots := 0, locals := 0 } : Room) s m #[(.int (2 : Int32))] below meth c s₁ [] 0 0 := Stand.of_body Bd
  have e0 : s₁.heap = h0 := by rw [← hh, Bd.state]; rfl
  have N0 := Fr.nil n0
  have pre0 : ∀ t, Steps p.tables e below (s₁.setTop (mkF m 0 #[.val (.int (2 : Int32))] [])) t → Steps p.tables e below (s₁.setTop (entryFrame m #[(.int (2 : Int32))] 1)) t := fun t k => castTop (by first | (simp [entryFrame, mkF, argsToLocals, Value.category]; done) | rfl) k
  obtain ⟨T1, X1, e1, st1⟩ := getS X0 hx hZ hown (host := "") (hw _ (List.mem_of_getElem? (i := 21) rfl)) Via.refl e0 S_STRING (g := (mkF m 22 #[.val (.int (2 : Int32))] [])) rfl (hb hby d0_22)
  obtain ⟨fs, hr, hrun, hended, hW, hsame⟩ := X1.leave (v := some (.ref s_STRING)) (fun h => by rw [Bd.returns] at h; cases h)
  refine ⟨_, _, pre0 _ ?_, hrun, hended, _, _, rfl, ?_, ⟨_, rfl⟩, hW, hsame.mono (by decide) (by decide)⟩
  · show Steps p.tables e below (s₁.setTop (mkF m 0 #[.val (.int (2 : Int32))] [])) _
    refine XS.iloadN X0.here hx rfl (hb hby d0_0) rfl ?_
    show Steps p.tables e below (s₁.setTop (mkF m 1 #[.val (.int (2 : Int32))] [(.int (2 : Int32))])) _
    refine XS.ifYes X0.here hx rfl (pc0 := 1) (pc' := 8) rfl (hb hby d0_1) rfl (by decide +kernel) (by decide) (by decide) ?_
    show Steps p.tables e below (s₁.setTop (mkF m 8 #[.val (.int (2 : Int32))] [])) _
    refine XS.iloadN X0.here hx rfl (hb hby d0_8) rfl ?_
    show Steps p.tables e below (s₁.setTop (mkF m 9 #[.val (.int (2 : Int32))] [(.int (2 : Int32))])) _
    refine XS.iconst X0.here hx rfl (hb hby d0_9) ?_
    show Steps p.tables e below (s₁.setTop (mkF m 10 #[.val (.int (2 : Int32))] [(.int (1 : Int32)), (.int (2 : Int32))])) _
    refine XS.icmpYes X0.here hx rfl (pc0 := 10) (pc' := 17) rfl (hb hby d0_10) rfl (by decide +kernel) (by decide) (by decide) ?_
    show Steps p.tables e below (s₁.setTop (mkF m 17 #[.val (.int (2 : Int32))] [])) _
    refine XS.iloadN X0.here hx rfl (hb hby d0_17) rfl ?_
    show Steps p.tables e below (s₁.setTop (mkF m 18 #[.val (.int (2 : Int32))] [(.int (2 : Int32))])) _
    refine XS.iconst X0.here hx rfl (hb hby d0_18) ?_
    show Steps p.tables e below (s₁.setTop (mkF m 19 #[.val (.int (2 : Int32))] [(.int (2 : Int32)), (.int (2 : Int32))])) _
    refine XS.icmpNo X0.here hx rfl (hb hby d0_19) rfl (by decide +kernel) ?_
    show Steps p.tables e below (s₁.setTop (mkF m 22 #[.val (.int (2 : Int32))] [])) _
    refine st1 _ ?_
    show Steps p.tables e below (T1.setTop (mkF m 25 #[.val (.int (2 : Int32))] [(.ref s_STRING)])) _
    exact retOut X1 hx (i := .areturn) Bd.returns rfl (Or.inr (Or.inr (Or.inr (Or.inr ⟨rfl, rfl, rfl⟩)))) (hb hby d0_25) hr
  · exact ⟨rfl, N0, e1⟩
set_option maxRecDepth 65536 in
set_option maxHeartbeats 40000000 in
theorem r7 (l : Launch) (Z : State) (a0 : Array Value) (hw : ∀ d ∈ tables_1, d.before a0 Z = true) (ws : List Jvm.Cond) (h0 : Heap) (n0 : Nat) (s_NULL : Addr) (s_BITS : Addr) (s_OPAQUE : Addr) (s_CONSTRUCTOR : Addr) (s_END : Addr) (s_STRING : Addr) (s_BOOLEAN : Addr) (s_INTEGER : Addr) (s_OCTETS : Addr) (K : Ctx Z h0 s_NULL s_BITS s_OPAQUE s_CONSTRUCTOR s_END s_STRING s_BOOLEAN s_INTEGER s_OCTETS) :
    MetFree l (⟨"com/example/plainwire/plainwire/rfc806/Element$Kind", "bare", "()Z"⟩ : MethodName) (head1 (Jvm.Cond.code (⟨"com/example/plainwire/plainwire/rfc806/Element$Kind", "bare", "()Z"⟩ : MethodName) prog_102_method_4_code 1 (some .boolean) :: ws) ({ frames := 0, cells := 0, slots := 0, locals := 0 } : Room)) (fun a U => a = #[(.ref s_STRING)] ∧ Z.Warmed39 U.vm ∧ U.heap = h0) (fun _ _ _ _ _ => True) (fun _ U o U' => ∃ v L, o = .returned v ∧ QV (.int (1 : Int32)) h0 n0 v U'.heap L ∧ FrameEnd U o U' L ({ frames := 0, cells := 0, slots := 0, locals := 0 } : Room).cells ({ frames := 0, cells := 0, slots := 0, locals := 0 } : Room).slots) := by
  obtain ⟨S_NULL, S_BITS, ne_BITS_NULL, S_OPAQUE, ne_NULL_OPAQUE, S_CONSTRUCTOR, ne_CONSTRUCTOR_NULL, E_NULL, S_END, ne_BITS_END, ne_END_OPAQUE, ne_CONSTRUCTOR_END, E_END, S_STRING, ne_BITS_STRING, ne_OPAQUE_STRING, ne_CONSTRUCTOR_STRING, E_STRING, S_BOOLEAN, ne_BITS_BOOLEAN, ne_BOOLEAN_OPAQUE, ne_BOOLEAN_CONSTRUCTOR, E_BOOLEAN, S_INTEGER, ne_BITS_INTEGER, ne_INTEGER_OPAQUE, ne_CONSTRUCTOR_INTEGER, E_INTEGER, S_OCTETS, ne_BITS_OCTETS, ne_OCTETS_OPAQUE, ne_CONSTRUCTOR_OCTETS, E_OCTETS, E_BITS, ne_BITS_OPAQUE, E_OPAQUE, ne_BITS_CONSTRUCTOR, ne_CONSTRUCTOR_OPAQUE, E_CONSTRUCTOR⟩ := id K
  refine MetFree.of_bodySF (plainFor_of_name pn1) hisR ?_
  intro p e s m args below meth c s₁ Bd hml0 hP hK
  obtain ⟨rfl, hZ, hh⟩ := hP
  have hx := Bd.exec
  have hby := Bd.bytes
  have hml : c.maxLocals = 1 := hml0
  have hown : s.vm.findClass "com/example/plainwire/plainwire/rfc806/Element$Kind" = some m.cls := findClass_of_methodNamed Bd.named
  have X0 : Stand p l e ({ frames := 0, cells := 0, slots := 0, locals := 0 } : Room) s m #[(.ref s_STRING)] below meth c s₁ [] 0 0 := Stand.of_body Bd
  have e0 : s₁.heap = h0 := by rw [← hh, Bd.state]; rfl
  have N0 := Fr.nil n0
  have pre0 : ∀ t, Steps p.tables e below (s₁.setTop (mkF m 0 #[.val (.ref s_STRING)] [])) t → Steps p.tables e below (s₁.setTop (entryFrame m #[(.ref s_STRING)] 1)) t := fun t k => castTop (by first | (simp [entryFrame, mkF, argsToLocals, Value.category]; done) | rfl) k
  obtain ⟨T1, X1, e1, st1⟩ := getS X0 hx hZ hown (host := "") (hw _ (List.mem_of_getElem? (i := 13) rfl)) Via.refl e0 S_BITS (g := (mkF m 1 #[.val (.ref s_STRING)] [(.ref s_STRING)])) rfl (hb hby d1_1)
  obtain ⟨T2, X2, e2, st2⟩ := getS X1 hx hZ hown (host := "") (hw _ (List.mem_of_getElem? (i := 15) rfl)) Via.refl e1 S_OPAQUE (g := (mkF m 8 #[.val (.ref s_STRING)] [(.ref s_STRING)])) rfl (hb hby d1_8)
  obtain ⟨T3, X3, e3, st3⟩ := getS X2 hx hZ hown (host := "") (hw _ (List.mem_of_getElem? (i := 17) rfl)) Via.refl e2 S_CONSTRUCTOR (g := (mkF m 15 #[.val (.ref s_STRING)] [(.ref s_STRING)])) rfl (hb hby d1_15)
  obtain ⟨fs, hr, hrun, hended, hW, hsame⟩ := X3.leave (v := some (.int (1 : Int32))) (fun h => by rw [Bd.returns] at h; cases h)
  refine ⟨_, _, pre0 _ ?_, hrun, hended, _, _, rfl, ?_, ⟨_, rfl⟩, hW, hsame.mono (by decide) (by decide)⟩
  · show Steps p.tables e below (s₁.setTop (mkF m 0 #[.val (.ref s_STRING)] [])) _
    refine XS.aloadN X0.here hx rfl (hb hby d1_0) rfl rfl ?_
    show Steps p.tables e below (s₁.setTop (mkF m 1 #[.val (.ref s_STRING)] [(.ref s_STRING)])) _
    refine st1 _ ?_
    show Steps p.tables e below (T1.setTop (mkF m 4 #[.val (.ref s_STRING)] [(.ref s_BITS), (.ref s_STRING)])) _
    refine Jvm.RoadKit.acmp (g := (mkF m 4 #[.val (.ref s_STRING)] [(.ref s_BITS), (.ref s_STRING)])) X1 hx rfl rfl rfl (pc0 := 4) (pc' := 7) (same := false) rfl (hb hby d1_4) rfl (decide_eq_false fun q => (Ne.symm ne_BITS_STRING) (Value.ref.inj q)) (by decide) (by decide) ?_
    show Steps p.tables e below (T1.setTop (mkF m 7 #[.val (.ref s_STRING)] [])) _
    refine XS.aloadN X1.here hx rfl (hb hby d1_7) rfl rfl ?_
    show Steps p.tables e below (T1.setTop (mkF m 8 #[.val (.ref s_STRING)] [(.ref s_STRING)])) _
    refine st2 _ ?_
    show Steps p.tables e below (T2.setTop (mkF m 11 #[.val (.ref s_STRING)] [(.ref s_OPAQUE), (.ref s_STRING)])) _
    refine Jvm.RoadKit.acmp (g := (mkF m 11 #[.val (.ref s_STRING)] [(.ref s_OPAQUE), (.ref s_STRING)])) X2 hx rfl rfl rfl (pc0 := 11) (pc' := 14) (same := false) rfl (hb hby d1_11) rfl (decide_eq_false fun q => (Ne.symm ne_OPAQUE_STRING) (Value.ref.inj q)) (by decide) (by decide) ?_
    show Steps p.tables e below (T2.setTop (mkF m 14 #[.val (.ref s_STRING)] [])) _
    refine XS.aloadN X2.here hx rfl (hb hby d1_14) rfl rfl ?_
    show Steps p.tables e below (T2.setTop (mkF m 15 #[.val (.ref s_STRING)] [(.ref s_STRING)])) _
    refine st3 _ ?_
    show Steps p.tables e below (T3.setTop (mkF m 18 #[.val (.ref s_STRING)] [(.ref s_CONSTRUCTOR), (.ref s_STRING)])) _
    refine Jvm.RoadKit.acmp (g := (mkF m 18 #[.val (.ref s_STRING)] [(.ref s_CONSTRUCTOR), (.ref s_STRING)])) X3 hx rfl rfl rfl (pc0 := 18) (pc' := 21) (same := false) rfl (hb hby d1_18) rfl (decide_eq_false fun q => (Ne.symm ne_CONSTRUCTOR_STRING) (Value.ref.inj q)) (by decide) (by decide) ?_
    show Steps p.tables e below (T3.setTop (mkF m 21 #[.val (.ref s_STRING)] [])) _
    refine XS.iconst X3.here hx rfl (hb hby d1_21) ?_
    show Steps p.tables e below (T3.setTop (mkF m 22 #[.val (.ref s_STRING)] [(.int (1 : Int32))])) _
    refine XS.goto X3.here hx rfl (pc0 := 22) (pc' := 26) rfl (hb hby d1_22) (by decide) (by decide) ?_
    show Steps p.tables e below (T3.setTop (mkF m 26 #[.val (.ref s_STRING)] [(.int (1 : Int32))])) _
    exact retN X3 hx (t := .boolean) Bd.returns (by simp) (hb hby d1_26) hr
  · exact ⟨rfl, N0, e3⟩
set_option maxRecDepth 65536 in
set_option maxHeartbeats 40000000 in
theorem law_k2 (l : Launch) (Z : State) (a0 : Array Value) (hw : ∀ d ∈ tables_1, d.before a0 Z = true) (ws : List Jvm.Cond) (h0 : Heap) (n0 : Nat) (s_NULL : Addr) (s_BITS : Addr) (s_OPAQUE : Addr) (s_CONSTRUCTOR : Addr) (s_END : Addr) (s_STRING : Addr) (s_BOOLEAN : Addr) (s_INTEGER : Addr) (s_OCTETS : Addr) (K : Ctx Z h0 s_NULL s_BITS s_OPAQUE s_CONSTRUCTOR s_END s_STRING s_BOOLEAN s_INTEGER s_OCTETS) (p0 : Int32) (hp0 : ((p0 &&& (2147483647 : Int32)) % (9 : Int32)) = (2 : Int32)) :
    MetFree l x (head1 (Jvm.Cond.code x code maxLocals ret :: ws) room_1) (fun a U => a = #[(.int p0)] ∧ Z.Warmed39 U.vm ∧ U.heap = h0) (fun _ _ _ _ _ => True) (fun _ U o U' => ∃ v L, o = .returned v ∧ QV (.int (1 : Int32)) h0 n0 v U'.heap L ∧ FrameEnd U o U' L room_1.cells room_1.slots) := by
  obtain ⟨S_NULL, S_BITS, ne_BITS_NULL, S_OPAQUE, ne_NULL_OPAQUE, S_CONSTRUCTOR, ne_CONSTRUCTOR_NULL, E_NULL, S_END, ne_BITS_END, ne_END_OPAQUE, ne_CONSTRUCTOR_END, E_END, S_STRING, ne_BITS_STRING, ne_OPAQUE_STRING, ne_CONSTRUCTOR_STRING, E_STRING, S_BOOLEAN, ne_BITS_BOOLEAN, ne_BOOLEAN_OPAQUE, ne_BOOLEAN_CONSTRUCTOR, E_BOOLEAN, S_INTEGER, ne_BITS_INTEGER, ne_INTEGER_OPAQUE, ne_CONSTRUCTOR_INTEGER, E_INTEGER, S_OCTETS, ne_BITS_OCTETS, ne_OCTETS_OPAQUE, ne_CONSTRUCTOR_OCTETS, E_OCTETS, E_BITS, ne_BITS_OPAQUE, E_OPAQUE, ne_BITS_CONSTRUCTOR, ne_CONSTRUCTOR_OPAQUE, E_CONSTRUCTOR⟩ := id K
  refine MetFree.of_bodySF (plainFor_of_name pn2) hisR ?_
  intro p e s m args below meth c s₁ Bd hml0 hP hK
  obtain ⟨rfl, hZ, hh⟩ := hP
  have hx := Bd.exec
  have hby := Bd.bytes
  have hml : c.maxLocals = 4 := hml0
  have hown : s.vm.findClass "com/example/plainwire/plainwire/rfc806/KindBarePinLaw" = some m.cls := findClass_of_methodNamed Bd.named
  have X0 : Stand p l e room_1 s m #[(.int p0)] below meth c s₁ [] 0 0 := Stand.of_body Bd
  have e0 : s₁.heap = h0 := by rw [← hh, Bd.state]; rfl
  have N0 := Fr.nil n0
  have pre0 : ∀ t, Steps p.tables e below (s₁.setTop (mkF m 0 #[.val (.int p0), .unset, .unset, .unset] [])) t → Steps p.tables e below (s₁.setTop (entryFrame m #[(.int p0)] maxLocals)) t := fun t k => castTop (by first | (simp [entryFrame, mkF, argsToLocals, Value.category, maxLocals]; done) | rfl) k
  obtain ⟨_, _, ⟨T1, L1, k1, n1⟩, -, X1, ⟨Lc1, hQ1, l1, y1, z1⟩, st1⟩ := Jvm.LawKit.callS X0 hx (y := (⟨"com/example/plainwire/plainwire/rfc806/KindBarePinLaw", "pick", "(I)Lcom/example/plainwire/plainwire/rfc806/Element$Kind;"⟩ : MethodName)) hown (mvT hZ (hw _ (List.mem_of_getElem? (i := 1) rfl))) (mvT hZ (hw _ (List.mem_of_getElem? (i := 2) rfl))) (mvT hZ (hw _ (List.mem_of_getElem? (i := 3) rfl))) (mvT hZ (hw _ (List.mem_of_getElem? (i := 4) rfl))) (by decide) (backOf (W := 0) (r6 l Z a0 hw [] h0 n0 s_NULL s_BITS s_OPAQUE s_CONSTRUCTOR s_END s_STRING s_BOOLEAN s_INTEGER s_OCTETS K) hZ (hw _ (List.mem_of_getElem? (i := 4) rfl)) (hw _ (List.mem_of_getElem? (i := 3) rfl)) (by decide) (by decide)) (g := (mkF m 9 #[.val (.int p0), .val (.int (2 : Int32)), .unset, .unset] [(.int (2 : Int32))])) rfl (by rw [hml]; rfl) (argsL := [(.int (2 : Int32))]) (rest := []) (lenOf pd0 rfl) rfl (by show 2 * 0 + _ ≤ _; exact Nat.le_of_eq rfl) (hb hby at_9) (fun _ _ => ⟨rfl, e0, (by decide : 0 + 0 ≤ _), (by decide : 0 + 0 ≤ _)⟩)
  dsimp only [Pt.U, Pt.locs, Pt.cells, Pt.slots] at X1 l1 y1 z1 st1 hQ1
  subst l1 y1 z1
  obtain ⟨rfl, N1q, e1⟩ := hQ1
  have N1 := Fr.app N0 N1q
  obtain ⟨cq2, kq2, q2a, q2b, q2c⟩ := isOf hZ e1 E_STRING
  obtain ⟨_, _, ⟨T2, L2, k2, n2⟩, -, X2, ⟨Lc2, hQ2, l2, y2, z2⟩, st2⟩ := X1.virtualBack hx (y := (⟨"com/example/plainwire/plainwire/rfc806/Element$Kind", "bare", "()Z"⟩ : MethodName)) (z := (⟨"com/example/plainwire/plainwire/rfc806/Element$Kind", "bare", "()Z"⟩ : MethodName)) hown (mvT hZ (hw _ (List.mem_of_getElem? (i := 8) rfl))) (mvT hZ (hw _ (List.mem_of_getElem? (i := 9) rfl))) (notFace_of_selects (args := #[]) (mvT hZ (hw _ (List.mem_of_getElem? (i := 11) rfl)))) (mvT hZ (hw _ (List.mem_of_getElem? (i := 11) rfl))) (mvT hZ (hw _ (List.mem_of_getElem? (i := 10) rfl))) (by decide) (backOf (W := 0) (r7 l Z a0 hw [] h0 n0 s_NULL s_BITS s_OPAQUE s_CONSTRUCTOR s_END s_STRING s_BOOLEAN s_INTEGER s_OCTETS K) hZ (hw _ (List.mem_of_getElem? (i := 12) rfl)) (hw _ (List.mem_of_getElem? (i := 6) rfl)) (by decide) (by decide)) q2a q2c (g := (mkF m 26 #[.val (.int p0), .val (.int (2 : Int32)), .val (.ref s_STRING), .val (.int (1 : Int32))] [(.ref s_STRING)])) rfl (by rw [hml]; rfl) (Steps.refl _) (argsL := []) (rest := []) (lenOf pd1 rfl) rfl (by show 2 * 0 + _ ≤ _; exact Nat.le_of_eq rfl) (hb hby at_26) (fun _ _ => ⟨rfl, e1, (by decide : 0 + 0 ≤ _), (by decide : 0 + 0 ≤ _)⟩)
  dsimp only [Pt.U, Pt.locs, Pt.cells, Pt.slots] at X2 l2 y2 z2 st2 hQ2
  subst l2 y2 z2
  obtain ⟨rfl, N2q, e2⟩ := hQ2
  have N2 := Fr.app N1 N2q
  obtain ⟨fs, hr, hrun, hended, hW, hsame⟩ := X2.leave (v := some (.int (1 : Int32))) (fun h => by rw [Bd.returns] at h; cases h)
  refine ⟨_, _, pre0 _ ?_, hrun, hended, _, _, rfl, ?_, ⟨_, rfl⟩, hW, hsame.mono (by decide) (by decide)⟩
  · show Steps p.tables e below (s₁.setTop (mkF m 0 #[.val (.int p0), .unset, .unset, .unset] [])) _
    refine XS.iloadN X0.here hx rfl (hb hby at_0) rfl ?_
    show Steps p.tables e below (s₁.setTop (mkF m 1 #[.val (.int p0), .unset, .unset, .unset] [(.int p0)])) _
    refine X0.ldcInt hx hown (mvT hZ (hw _ (List.mem_of_getElem? (i := 0) rfl))) (g := (mkF m 1 #[.val (.int p0), .unset, .unset, .unset] [(.int p0)])) rfl (hb hby at_1) _ ?_
    show Steps p.tables e below (s₁.setTop (mkF m 3 #[.val (.int p0), .unset, .unset, .unset] [(.int (2147483647 : Int32)), (.int p0)])) _
    refine XS.iand X0.here hx rfl (hb hby at_3) rfl ?_
    show Steps p.tables e below (s₁.setTop (mkF m 4 #[.val (.int p0), .unset, .unset, .unset] [(.int (p0 &&& (2147483647 : Int32)))])) _
    refine XS.bipush X0.here hx rfl (hb hby at_4) ?_
    show Steps p.tables e below (s₁.setTop (mkF m 6 #[.val (.int p0), .unset, .unset, .unset] [(.int (9 : Int32)), (.int (p0 &&& (2147483647 : Int32)))])) _
    refine Jvm.RoadKit.iremM X0 hx rfl (hb hby at_6) rfl (by decide) ?_
    show Steps p.tables e below (s₁.setTop (mkF m 7 #[.val (.int p0), .unset, .unset, .unset] [(.int ((p0 &&& (2147483647 : Int32)) % (9 : Int32)))])) _
    rw [hp0]
    show Steps p.tables e below (s₁.setTop (mkF m 7 #[.val (.int p0), .unset, .unset, .unset] [(.int (2 : Int32))])) _
    refine XS.istoreN X0.here hx rfl (hb hby at_7) rfl (l' := #[.val (.int p0), .val (.int (2 : Int32)), .unset, .unset]) rfl ?_
    show Steps p.tables e below (s₁.setTop (mkF m 8 #[.val (.int p0), .val (.int (2 : Int32)), .unset, .unset] [])) _
    refine XS.iloadN X0.here hx rfl (hb hby at_8) rfl ?_
    show Steps p.tables e below (s₁.setTop (mkF m 9 #[.val (.int p0), .val (.int (2 : Int32)), .unset, .unset] [(.int (2 : Int32))])) _
    refine st1 _ ?_
    show Steps p.tables e below (T1.setTop (mkF m 12 #[.val (.int p0), .val (.int (2 : Int32)), .unset, .unset] [(.ref s_STRING)])) _
    refine XS.astoreN X1.here hx rfl (hb hby at_12) rfl rfl (l' := #[.val (.int p0), .val (.int (2 : Int32)), .val (.ref s_STRING), .unset]) rfl ?_
    show Steps p.tables e below (T1.setTop (mkF m 13 #[.val (.int p0), .val (.int (2 : Int32)), .val (.ref s_STRING), .unset] [])) _
    refine XS.iloadN X1.here hx rfl (hb hby at_13) rfl ?_
    show Steps p.tables e below (T1.setTop (mkF m 14 #[.val (.int p0), .val (.int (2 : Int32)), .val (.ref s_STRING), .unset] [(.int (2 : Int32))])) _
    refine XS.bipush X1.here hx rfl (hb hby at_14) ?_
    show Steps p.tables e below (T1.setTop (mkF m 16 #[.val (.int p0), .val (.int (2 : Int32)), .val (.ref s_STRING), .unset] [(.int (6 : Int32)), (.int (2 : Int32))])) _
    refine XS.icmpNo X1.here hx rfl (hb hby at_16) rfl (by decide +kernel) ?_
    show Steps p.tables e below (T1.setTop (mkF m 19 #[.val (.int p0), .val (.int (2 : Int32)), .val (.ref s_STRING), .unset] [])) _
    refine XS.iconst X1.here hx rfl (hb hby at_19) ?_
    show Steps p.tables e below (T1.setTop (mkF m 20 #[.val (.int p0), .val (.int (2 : Int32)), .val (.ref s_STRING), .unset] [(.int (1 : Int32))])) _
    refine XS.goto X1.here hx rfl (pc0 := 20) (pc' := 24) rfl (hb hby at_20) (by decide) (by decide) ?_
    show Steps p.tables e below (T1.setTop (mkF m 24 #[.val (.int p0), .val (.int (2 : Int32)), .val (.ref s_STRING), .unset] [(.int (1 : Int32))])) _
    refine XS.istoreN X1.here hx rfl (hb hby at_24) rfl (l' := #[.val (.int p0), .val (.int (2 : Int32)), .val (.ref s_STRING), .val (.int (1 : Int32))]) rfl ?_
    show Steps p.tables e below (T1.setTop (mkF m 25 #[.val (.int p0), .val (.int (2 : Int32)), .val (.ref s_STRING), .val (.int (1 : Int32))] [])) _
    refine XS.aloadN X1.here hx rfl (hb hby at_25) rfl rfl ?_
    show Steps p.tables e below (T1.setTop (mkF m 26 #[.val (.int p0), .val (.int (2 : Int32)), .val (.ref s_STRING), .val (.int (1 : Int32))] [(.ref s_STRING)])) _
    refine st2.trans ?_
    show Steps p.tables e below (T2.setTop (mkF m 29 #[.val (.int p0), .val (.int (2 : Int32)), .val (.ref s_STRING), .val (.int (1 : Int32))] [(.int (1 : Int32))])) _
    refine XS.iloadN X2.here hx rfl (hb hby at_29) rfl ?_
    show Steps p.tables e below (T2.setTop (mkF m 30 #[.val (.int p0), .val (.int (2 : Int32)), .val (.ref s_STRING), .val (.int (1 : Int32))] [(.int (1 : Int32)), (.int (1 : Int32))])) _
    refine XS.icmpNo X2.here hx rfl (hb hby at_30) rfl (by decide +kernel) ?_
    show Steps p.tables e below (T2.setTop (mkF m 33 #[.val (.int p0), .val (.int (2 : Int32)), .val (.ref s_STRING), .val (.int (1 : Int32))] [])) _
    refine XS.iconst X2.here hx rfl (hb hby at_33) ?_
    show Steps p.tables e below (T2.setTop (mkF m 34 #[.val (.int p0), .val (.int (2 : Int32)), .val (.ref s_STRING), .val (.int (1 : Int32))] [(.int (1 : Int32))])) _
    refine XS.goto X2.here hx rfl (pc0 := 34) (pc' := 38) rfl (hb hby at_34) (by decide) (by decide) ?_
    show Steps p.tables e below (T2.setTop (mkF m 38 #[.val (.int p0), .val (.int (2 : Int32)), .val (.ref s_STRING), .val (.int (1 : Int32))] [(.int (1 : Int32))])) _
    exact retN X2 hx (t := .boolean) Bd.returns (by simp) (hb hby at_38) hr
  · exact ⟨rfl, N2, e2⟩
set_option maxRecDepth 65536 in
set_option maxHeartbeats 40000000 in
theorem r9 (l : Launch) (Z : State) (a0 : Array Value) (hw : ∀ d ∈ tables_1, d.before a0 Z = true) (ws : List Jvm.Cond) (h0 : Heap) (n0 : Nat) (s_NULL : Addr) (s_BITS : Addr) (s_OPAQUE : Addr) (s_CONSTRUCTOR : Addr) (s_END : Addr) (s_STRING : Addr) (s_BOOLEAN : Addr) (s_INTEGER : Addr) (s_OCTETS : Addr) (K : Ctx Z h0 s_NULL s_BITS s_OPAQUE s_CONSTRUCTOR s_END s_STRING s_BOOLEAN s_INTEGER s_OCTETS) :
    MetFree l (⟨"com/example/plainwire/plainwire/rfc806/KindBarePinLaw", "pick", "(I)Lcom/example/plainwire/plainwire/rfc806/Element$Kind;"⟩ : MethodName) (head1 (Jvm.Cond.code (⟨"com/example/plainwire/plainwire/rfc806/KindBarePinLaw", "pick", "(I)Lcom/example/plainwire/plainwire/rfc806/Element$Kind;"⟩ : MethodName) method_2_code 1 (some (.object "com/example/plainwire/plainwire/rfc806/Element$Kind")) :: ws) ({ frames := 0, cells := 0, slots := 0, locals := 0 } : Room)) (fun a U => a = #[(.int (3 : Int32))] ∧ Z.Warmed39 U.vm ∧ U.heap = h0) (fun _ _ _ _ _ => True) (fun _ U o U' => ∃ v L, o = .returned v ∧ QV (.ref s_BOOLEAN) h0 n0 v U'.heap L ∧ FrameEnd U o U' L ({ frames := 0, cells := 0, slots := 0, locals := 0 } : Room).cells ({ frames := 0, cells := 0, slots := 0, locals := 0 } : Room).slots) := by
  obtain ⟨S_NULL, S_BITS, ne_BITS_NULL, S_OPAQUE, ne_NULL_OPAQUE, S_CONSTRUCTOR, ne_CONSTRUCTOR_NULL, E_NULL, S_END, ne_BITS_END, ne_END_OPAQUE, ne_CONSTRUCTOR_END, E_END, S_STRING, ne_BITS_STRING, ne_OPAQUE_STRING, ne_CONSTRUCTOR_STRING, E_STRING, S_BOOLEAN, ne_BITS_BOOLEAN, ne_BOOLEAN_OPAQUE, ne_BOOLEAN_CONSTRUCTOR, E_BOOLEAN, S_INTEGER, ne_BITS_INTEGER, ne_INTEGER_OPAQUE, ne_CONSTRUCTOR_INTEGER, E_INTEGER, S_OCTETS, ne_BITS_OCTETS, ne_OCTETS_OPAQUE, ne_CONSTRUCTOR_OCTETS, E_OCTETS, E_BITS, ne_BITS_OPAQUE, E_OPAQUE, ne_BITS_CONSTRUCTOR, ne_CONSTRUCTOR_OPAQUE, E_CONSTRUCTOR⟩ := id K
  refine MetFree.of_bodySF (plainFor_of_name pn0) hisR ?_
  intro p e s m args below meth c s₁ Bd hml0 hP hK
  obtain ⟨rfl, hZ, hh⟩ := hP
  have hx := Bd.exec
  have hby := Bd.bytes
  have hml : c.maxLocals = 1 := hml0
  have hown : s.vm.findClass "com/example/plainwire/plainwire/rfc806/KindBarePinLaw" = some m.cls := findClass_of_methodNamed Bd.named
  have X0 : Stand p l e ({ frames := 0, cells := 0, slots := 0, locals := 0 } : Room) s m #[(.int (3 : Int32))] below meth c s₁ [] 0 0 := Stand.of_body Bd
  have e0 : s₁.heap = h0 := by rw [← hh, Bd.state]; rfl
  have N0 := Fr.nil n0
  have pre0 : ∀ t, Steps p.tables e below (s₁.setTop (mkF m 0 #[.val (.int (3 : Int32))] [])) t → Steps p.tables e below (s₁.setTop (entryFrame m #[(.int (3 : Int32))] 1)) t := fun t k => castTop (by first | (simp [entryFrame, mkF, argsToLocals, Value.category]; done) | rfl) k
  obtain ⟨T1, X1, e1, st1⟩ := getS X0 hx hZ hown (host := "") (hw _ (List.mem_of_getElem? (i := 19) rfl)) Via.refl e0 S_BOOLEAN (g := (mkF m 31 #[.val (.int (3 : Int32))] [])) rfl (hb hby d0_31)
  obtain ⟨fs, hr, hrun, hended, hW, hsame⟩ := X1.leave (v := some (.ref s_BOOLEAN)) (fun h => by rw [Bd.returns] at h; cases h)
  refine ⟨_, _, pre0 _ ?_, hrun, hended, _, _, rfl, ?_, ⟨_, rfl⟩, hW, hsame.mono (by decide) (by decide)⟩
  · show Steps p.tables e below (s₁.setTop (mkF m 0 #[.val (.int (3 : Int32))] [])) _
    refine XS.iloadN X0.here hx rfl (hb hby d0_0) rfl ?_
    show Steps p.tables e below (s₁.setTop (mkF m 1 #[.val (.int (3 : Int32))] [(.int (3 : Int32))])) _
    refine XS.ifYes X0.here hx rfl (pc0 := 1) (pc' := 8) rfl (hb hby d0_1) rfl (by decide +kernel) (by decide) (by decide) ?_
    show Steps p.tables e below (s₁.setTop (mkF m 8 #[.val (.int (3 : Int32))] [])) _
    refine XS.iloadN X0.here hx rfl (hb hby d0_8) rfl ?_
    show Steps p.tables e below (s₁.setTop (mkF m 9 #[.val (.int (3 : Int32))] [(.int (3 : Int32))])) _
    refine XS.iconst X0.here hx rfl (hb hby d0_9) ?_
    show Steps p.tables e below (s₁.setTop (mkF m 10 #[.val (.int (3 : Int32))] [(.int (1 : Int32)), (.int (3 : Int32))])) _
    refine XS.icmpYes X0.here hx rfl (pc0 := 10) (pc' := 17) rfl (hb hby d0_10) rfl (by decide +kernel) (by decide) (by decide) ?_
    show Steps p.tables e below (s₁.setTop (mkF m 17 #[.val (.int (3 : Int32))] [])) _
    refine XS.iloadN X0.here hx rfl (hb hby d0_17) rfl ?_
    show Steps p.tables e below (s₁.setTop (mkF m 18 #[.val (.int (3 : Int32))] [(.int (3 : Int32))])) _
    refine XS.iconst X0.here hx rfl (hb hby d0_18) ?_
    show Steps p.tables e below (s₁.setTop (mkF m 19 #[.val (.int (3 : Int32))] [(.int (2 : Int32)), (.int (3 : Int32))])) _
    refine XS.icmpYes X0.here hx rfl (pc0 := 19) (pc' := 26) rfl (hb hby d0_19) rfl (by decide +kernel) (by decide) (by decide) ?_
    show Steps p.tables e below (s₁.setTop (mkF m 26 #[.val (.int (3 : Int32))] [])) _
    refine XS.iloadN X0.here hx rfl (hb hby d0_26) rfl ?_
    show Steps p.tables e below (s₁.setTop (mkF m 27 #[.val (.int (3 : Int32))] [(.int (3 : Int32))])) _
    refine XS.iconst X0.here hx rfl (hb hby d0_27) ?_
    show Steps p.tables e below (s₁.setTop (mkF m 28 #[.val (.int (3 : Int32))] [(.int (3 : Int32)), (.int (3 : Int32))])) _
    refine XS.icmpNo X0.here hx rfl (hb hby d0_28) rfl (by decide +kernel) ?_
    show Steps p.tables e below (s₁.setTop (mkF m 31 #[.val (.int (3 : Int32))] [])) _
    refine st1 _ ?_
    show Steps p.tables e below (T1.setTop (mkF m 34 #[.val (.int (3 : Int32))] [(.ref s_BOOLEAN)])) _
    exact retOut X1 hx (i := .areturn) Bd.returns rfl (Or.inr (Or.inr (Or.inr (Or.inr ⟨rfl, rfl, rfl⟩)))) (hb hby d0_34) hr
  · exact ⟨rfl, N0, e1⟩
set_option maxRecDepth 65536 in
set_option maxHeartbeats 40000000 in
theorem r10 (l : Launch) (Z : State) (a0 : Array Value) (hw : ∀ d ∈ tables_1, d.before a0 Z = true) (ws : List Jvm.Cond) (h0 : Heap) (n0 : Nat) (s_NULL : Addr) (s_BITS : Addr) (s_OPAQUE : Addr) (s_CONSTRUCTOR : Addr) (s_END : Addr) (s_STRING : Addr) (s_BOOLEAN : Addr) (s_INTEGER : Addr) (s_OCTETS : Addr) (K : Ctx Z h0 s_NULL s_BITS s_OPAQUE s_CONSTRUCTOR s_END s_STRING s_BOOLEAN s_INTEGER s_OCTETS) :
    MetFree l (⟨"com/example/plainwire/plainwire/rfc806/Element$Kind", "bare", "()Z"⟩ : MethodName) (head1 (Jvm.Cond.code (⟨"com/example/plainwire/plainwire/rfc806/Element$Kind", "bare", "()Z"⟩ : MethodName) prog_102_method_4_code 1 (some .boolean) :: ws) ({ frames := 0, cells := 0, slots := 0, locals := 0 } : Room)) (fun a U => a = #[(.ref s_BOOLEAN)] ∧ Z.Warmed39 U.vm ∧ U.heap = h0) (fun _ _ _ _ _ => True) (fun _ U o U' => ∃ v L, o = .returned v ∧ QV (.int (1 : Int32)) h0 n0 v U'.heap L ∧ FrameEnd U o U' L ({ frames := 0, cells := 0, slots := 0, locals := 0 } : Room).cells ({ frames := 0, cells := 0, slots := 0, locals := 0 } : Room).slots) := by
  obtain ⟨S_NULL, S_BITS, ne_BITS_NULL, S_OPAQUE, ne_NULL_OPAQUE, S_CONSTRUCTOR, ne_CONSTRUCTOR_NULL, E_NULL, S_END, ne_BITS_END, ne_END_OPAQUE, ne_CONSTRUCTOR_END, E_END, S_STRING, ne_BITS_STRING, ne_OPAQUE_STRING, ne_CONSTRUCTOR_STRING, E_STRING, S_BOOLEAN, ne_BITS_BOOLEAN, ne_BOOLEAN_OPAQUE, ne_BOOLEAN_CONSTRUCTOR, E_BOOLEAN, S_INTEGER, ne_BITS_INTEGER, ne_INTEGER_OPAQUE, ne_CONSTRUCTOR_INTEGER, E_INTEGER, S_OCTETS, ne_BITS_OCTETS, ne_OCTETS_OPAQUE, ne_CONSTRUCTOR_OCTETS, E_OCTETS, E_BITS, ne_BITS_OPAQUE, E_OPAQUE, ne_BITS_CONSTRUCTOR, ne_CONSTRUCTOR_OPAQUE, E_CONSTRUCTOR⟩ := id K
  refine MetFree.of_bodySF (plainFor_of_name pn1) hisR ?_
  intro p e s m args below meth c s₁ Bd hml0 hP hK
  obtain ⟨rfl, hZ, hh⟩ := hP
  have hx := Bd.exec
  have hby := Bd.bytes
  have hml : c.maxLocals = 1 := hml0
  have hown : s.vm.findClass "com/example/plainwire/plainwire/rfc806/Element$Kind" = some m.cls := findClass_of_methodNamed Bd.named
  have X0 : Stand p l e ({ frames := 0, cells := 0, slots := 0, locals := 0 } : Room) s m #[(.ref s_BOOLEAN)] below meth c s₁ [] 0 0 := Stand.of_body Bd
  have e0 : s₁.heap = h0 := by rw [← hh, Bd.state]; rfl
  have N0 := Fr.nil n0
  have pre0 : ∀ t, Steps p.tables e below (s₁.setTop (mkF m 0 #[.val (.ref s_BOOLEAN)] [])) t → Steps p.tables e below (s₁.setTop (entryFrame m #[(.ref s_BOOLEAN)] 1)) t := fun t k => castTop (by first | (simp [entryFrame, mkF, argsToLocals, Value.category]; done) | rfl) k
  obtain ⟨T1, X1, e1, st1⟩ := getS X0 hx hZ hown (host := "") (hw _ (List.mem_of_getElem? (i := 13) rfl)) Via.refl e0 S_BITS (g := (mkF m 1 #[.val (.ref s_BOOLEAN)] [(.ref s_BOOLEAN)])) rfl (hb hby d1_1)
  obtain ⟨T2, X2, e2, st2⟩ := getS X1 hx hZ hown (host := "") (hw _ (List.mem_of_getElem? (i := 15) rfl)) Via.refl e1 S_OPAQUE (g := (mkF m 8 #[.val (.ref s_BOOLEAN)] [(.ref s_BOOLEAN)])) rfl (hb hby d1_8)
  obtain ⟨T3, X3, e3, st3⟩ := getS X2 hx hZ hown (host := "") (hw _ (List.mem_of_getElem? (i := 17) rfl)) Via.refl e2 S_CONSTRUCTOR (g := (mkF m 15 #[.val (.ref s_BOOLEAN)] [(.ref s_BOOLEAN)])) rfl (hb hby d1_15)
  obtain ⟨fs, hr, hrun, hended, hW, hsame⟩ := X3.leave (v := some (.int (1 : Int32))) (fun h => by rw [Bd.returns] at h; cases h)
  refine ⟨_, _, pre0 _ ?_, hrun, hended, _, _, rfl, ?_, ⟨_, rfl⟩, hW, hsame.mono (by decide) (by decide)⟩
  · show Steps p.tables e below (s₁.setTop (mkF m 0 #[.val (.ref s_BOOLEAN)] [])) _
    refine XS.aloadN X0.here hx rfl (hb hby d1_0) rfl rfl ?_
    show Steps p.tables e below (s₁.setTop (mkF m 1 #[.val (.ref s_BOOLEAN)] [(.ref s_BOOLEAN)])) _
    refine st1 _ ?_
    show Steps p.tables e below (T1.setTop (mkF m 4 #[.val (.ref s_BOOLEAN)] [(.ref s_BITS), (.ref s_BOOLEAN)])) _
    refine Jvm.RoadKit.acmp (g := (mkF m 4 #[.val (.ref s_BOOLEAN)] [(.ref s_BITS), (.ref s_BOOLEAN)])) X1 hx rfl rfl rfl (pc0 := 4) (pc' := 7) (same := false) rfl (hb hby d1_4) rfl (decide_eq_false fun q => (Ne.symm ne_BITS_BOOLEAN) (Value.ref.inj q)) (by decide) (by decide) ?_
    show Steps p.tables e below (T1.setTop (mkF m 7 #[.val (.ref s_BOOLEAN)] [])) _
    refine XS.aloadN X1.here hx rfl (hb hby d1_7) rfl rfl ?_
    show Steps p.tables e below (T1.setTop (mkF m 8 #[.val (.ref s_BOOLEAN)] [(.ref s_BOOLEAN)])) _
    refine st2 _ ?_
    show Steps p.tables e below (T2.setTop (mkF m 11 #[.val (.ref s_BOOLEAN)] [(.ref s_OPAQUE), (.ref s_BOOLEAN)])) _
    refine Jvm.RoadKit.acmp (g := (mkF m 11 #[.val (.ref s_BOOLEAN)] [(.ref s_OPAQUE), (.ref s_BOOLEAN)])) X2 hx rfl rfl rfl (pc0 := 11) (pc' := 14) (same := false) rfl (hb hby d1_11) rfl (decide_eq_false fun q => ne_BOOLEAN_OPAQUE (Value.ref.inj q)) (by decide) (by decide) ?_
    show Steps p.tables e below (T2.setTop (mkF m 14 #[.val (.ref s_BOOLEAN)] [])) _
    refine XS.aloadN X2.here hx rfl (hb hby d1_14) rfl rfl ?_
    show Steps p.tables e below (T2.setTop (mkF m 15 #[.val (.ref s_BOOLEAN)] [(.ref s_BOOLEAN)])) _
    refine st3 _ ?_
    show Steps p.tables e below (T3.setTop (mkF m 18 #[.val (.ref s_BOOLEAN)] [(.ref s_CONSTRUCTOR), (.ref s_BOOLEAN)])) _
    refine Jvm.RoadKit.acmp (g := (mkF m 18 #[.val (.ref s_BOOLEAN)] [(.ref s_CONSTRUCTOR), (.ref s_BOOLEAN)])) X3 hx rfl rfl rfl (pc0 := 18) (pc' := 21) (same := false) rfl (hb hby d1_18) rfl (decide_eq_false fun q => ne_BOOLEAN_CONSTRUCTOR (Value.ref.inj q)) (by decide) (by decide) ?_
    show Steps p.tables e below (T3.setTop (mkF m 21 #[.val (.ref s_BOOLEAN)] [])) _
    refine XS.iconst X3.here hx rfl (hb hby d1_21) ?_
    show Steps p.tables e below (T3.setTop (mkF m 22 #[.val (.ref s_BOOLEAN)] [(.int (1 : Int32))])) _
    refine XS.goto X3.here hx rfl (pc0 := 22) (pc' := 26) rfl (hb hby d1_22) (by decide) (by decide) ?_
    show Steps p.tables e below (T3.setTop (mkF m 26 #[.val (.ref s_BOOLEAN)] [(.int (1 : Int32))])) _
    exact retN X3 hx (t := .boolean) Bd.returns (by simp) (hb hby d1_26) hr
  · exact ⟨rfl, N0, e3⟩
set_option maxRecDepth 65536 in
set_option maxHeartbeats 40000000 in
theorem law_k3 (l : Launch) (Z : State) (a0 : Array Value) (hw : ∀ d ∈ tables_1, d.before a0 Z = true) (ws : List Jvm.Cond) (h0 : Heap) (n0 : Nat) (s_NULL : Addr) (s_BITS : Addr) (s_OPAQUE : Addr) (s_CONSTRUCTOR : Addr) (s_END : Addr) (s_STRING : Addr) (s_BOOLEAN : Addr) (s_INTEGER : Addr) (s_OCTETS : Addr) (K : Ctx Z h0 s_NULL s_BITS s_OPAQUE s_CONSTRUCTOR s_END s_STRING s_BOOLEAN s_INTEGER s_OCTETS) (p0 : Int32) (hp0 : ((p0 &&& (2147483647 : Int32)) % (9 : Int32)) = (3 : Int32)) :
    MetFree l x (head1 (Jvm.Cond.code x code maxLocals ret :: ws) room_1) (fun a U => a = #[(.int p0)] ∧ Z.Warmed39 U.vm ∧ U.heap = h0) (fun _ _ _ _ _ => True) (fun _ U o U' => ∃ v L, o = .returned v ∧ QV (.int (1 : Int32)) h0 n0 v U'.heap L ∧ FrameEnd U o U' L room_1.cells room_1.slots) := by
  obtain ⟨S_NULL, S_BITS, ne_BITS_NULL, S_OPAQUE, ne_NULL_OPAQUE, S_CONSTRUCTOR, ne_CONSTRUCTOR_NULL, E_NULL, S_END, ne_BITS_END, ne_END_OPAQUE, ne_CONSTRUCTOR_END, E_END, S_STRING, ne_BITS_STRING, ne_OPAQUE_STRING, ne_CONSTRUCTOR_STRING, E_STRING, S_BOOLEAN, ne_BITS_BOOLEAN, ne_BOOLEAN_OPAQUE, ne_BOOLEAN_CONSTRUCTOR, E_BOOLEAN, S_INTEGER, ne_BITS_INTEGER, ne_INTEGER_OPAQUE, ne_CONSTRUCTOR_INTEGER, E_INTEGER, S_OCTETS, ne_BITS_OCTETS, ne_OCTETS_OPAQUE, ne_CONSTRUCTOR_OCTETS, E_OCTETS, E_BITS, ne_BITS_OPAQUE, E_OPAQUE, ne_BITS_CONSTRUCTOR, ne_CONSTRUCTOR_OPAQUE, E_CONSTRUCTOR⟩ := id K
  refine MetFree.of_bodySF (plainFor_of_name pn2) hisR ?_
  intro p e s m args below meth c s₁ Bd hml0 hP hK
  obtain ⟨rfl, hZ, hh⟩ := hP
  have hx := Bd.exec
  have hby := Bd.bytes
  have hml : c.maxLocals = 4 := hml0
  have hown : s.vm.findClass "com/example/plainwire/plainwire/rfc806/KindBarePinLaw" = some m.cls := findClass_of_methodNamed Bd.named
  have X0 : Stand p l e room_1 s m #[(.int p0)] below meth c s₁ [] 0 0 := Stand.of_body Bd
  have e0 : s₁.heap = h0 := by rw [← hh, Bd.state]; rfl
  have N0 := Fr.nil n0
  have pre0 : ∀ t, Steps p.tables e below (s₁.setTop (mkF m 0 #[.val (.int p0), .unset, .unset, .unset] [])) t → Steps p.tables e below (s₁.setTop (entryFrame m #[(.int p0)] maxLocals)) t := fun t k => castTop (by first | (simp [entryFrame, mkF, argsToLocals, Value.category, maxLocals]; done) | rfl) k
  obtain ⟨_, _, ⟨T1, L1, k1, n1⟩, -, X1, ⟨Lc1, hQ1, l1, y1, z1⟩, st1⟩ := Jvm.LawKit.callS X0 hx (y := (⟨"com/example/plainwire/plainwire/rfc806/KindBarePinLaw", "pick", "(I)Lcom/example/plainwire/plainwire/rfc806/Element$Kind;"⟩ : MethodName)) hown (mvT hZ (hw _ (List.mem_of_getElem? (i := 1) rfl))) (mvT hZ (hw _ (List.mem_of_getElem? (i := 2) rfl))) (mvT hZ (hw _ (List.mem_of_getElem? (i := 3) rfl))) (mvT hZ (hw _ (List.mem_of_getElem? (i := 4) rfl))) (by decide) (backOf (W := 0) (r9 l Z a0 hw [] h0 n0 s_NULL s_BITS s_OPAQUE s_CONSTRUCTOR s_END s_STRING s_BOOLEAN s_INTEGER s_OCTETS K) hZ (hw _ (List.mem_of_getElem? (i := 4) rfl)) (hw _ (List.mem_of_getElem? (i := 3) rfl)) (by decide) (by decide)) (g := (mkF m 9 #[.val (.int p0), .val (.int (3 : Int32)), .unset, .unset] [(.int (3 : Int32))])) rfl (by rw [hml]; rfl) (argsL := [(.int (3 : Int32))]) (rest := []) (lenOf pd0 rfl) rfl (by show 2 * 0 + _ ≤ _; exact Nat.le_of_eq rfl) (hb hby at_9) (fun _ _ => ⟨rfl, e0, (by decide : 0 + 0 ≤ _), (by decide : 0 + 0 ≤ _)⟩)
  dsimp only [Pt.U, Pt.locs, Pt.cells, Pt.slots] at X1 l1 y1 z1 st1 hQ1
  subst l1 y1 z1
  obtain ⟨rfl, N1q, e1⟩ := hQ1
  have N1 := Fr.app N0 N1q
  obtain ⟨cq2, kq2, q2a, q2b, q2c⟩ := isOf hZ e1 E_BOOLEAN
  obtain ⟨_, _, ⟨T2, L2, k2, n2⟩, -, X2, ⟨Lc2, hQ2, l2, y2, z2⟩, st2⟩ := X1.virtualBack hx (y := (⟨"com/example/plainwire/plainwire/rfc806/Element$Kind", "bare", "()Z"⟩ : MethodName)) (z := (⟨"com/example/plainwire/plainwire/rfc806/Element$Kind", "bare", "()Z"⟩ : MethodName)) hown (mvT hZ (hw _ (List.mem_of_getElem? (i := 8) rfl))) (mvT hZ (hw _ (List.mem_of_getElem? (i := 9) rfl))) (notFace_of_selects (args := #[]) (mvT hZ (hw _ (List.mem_of_getElem? (i := 11) rfl)))) (mvT hZ (hw _ (List.mem_of_getElem? (i := 11) rfl))) (mvT hZ (hw _ (List.mem_of_getElem? (i := 10) rfl))) (by decide) (backOf (W := 0) (r10 l Z a0 hw [] h0 n0 s_NULL s_BITS s_OPAQUE s_CONSTRUCTOR s_END s_STRING s_BOOLEAN s_INTEGER s_OCTETS K) hZ (hw _ (List.mem_of_getElem? (i := 12) rfl)) (hw _ (List.mem_of_getElem? (i := 6) rfl)) (by decide) (by decide)) q2a q2c (g := (mkF m 26 #[.val (.int p0), .val (.int (3 : Int32)), .val (.ref s_BOOLEAN), .val (.int (1 : Int32))] [(.ref s_BOOLEAN)])) rfl (by rw [hml]; rfl) (Steps.refl _) (argsL := []) (rest := []) (lenOf pd1 rfl) rfl (by show 2 * 0 + _ ≤ _; exact Nat.le_of_eq rfl) (hb hby at_26) (fun _ _ => ⟨rfl, e1, (by decide : 0 + 0 ≤ _), (by decide : 0 + 0 ≤ _)⟩)
  dsimp only [Pt.U, Pt.locs, Pt.cells, Pt.slots] at X2 l2 y2 z2 st2 hQ2
  subst l2 y2 z2
  obtain ⟨rfl, N2q, e2⟩ := hQ2
  have N2 := Fr.app N1 N2q
  obtain ⟨fs, hr, hrun, hended, hW, hsame⟩ := X2.leave (v := some (.int (1 : Int32))) (fun h => by rw [Bd.returns] at h; cases h)
  refine ⟨_, _, pre0 _ ?_, hrun, hended, _, _, rfl, ?_, ⟨_, rfl⟩, hW, hsame.mono (by decide) (by decide)⟩
  · show Steps p.tables e below (s₁.setTop (mkF m 0 #[.val (.int p0), .unset, .unset, .unset] [])) _
    refine XS.iloadN X0.here hx rfl (hb hby at_0) rfl ?_
    show Steps p.tables e below (s₁.setTop (mkF m 1 #[.val (.int p0), .unset, .unset, .unset] [(.int p0)])) _
    refine X0.ldcInt hx hown (mvT hZ (hw _ (List.mem_of_getElem? (i := 0) rfl))) (g := (mkF m 1 #[.val (.int p0), .unset, .unset, .unset] [(.int p0)])) rfl (hb hby at_1) _ ?_
    show Steps p.tables e below (s₁.setTop (mkF m 3 #[.val (.int p0), .unset, .unset, .unset] [(.int (2147483647 : Int32)), (.int p0)])) _
    refine XS.iand X0.here hx rfl (hb hby at_3) rfl ?_
    show Steps p.tables e below (s₁.setTop (mkF m 4 #[.val (.int p0), .unset, .unset, .unset] [(.int (p0 &&& (2147483647 : Int32)))])) _
    refine XS.bipush X0.here hx rfl (hb hby at_4) ?_
    show Steps p.tables e below (s₁.setTop (mkF m 6 #[.val (.int p0), .unset, .unset, .unset] [(.int (9 : Int32)), (.int (p0 &&& (2147483647 : Int32)))])) _
    refine Jvm.RoadKit.iremM X0 hx rfl (hb hby at_6) rfl (by decide) ?_
    show Steps p.tables e below (s₁.setTop (mkF m 7 #[.val (.int p0), .unset, .unset, .unset] [(.int ((p0 &&& (2147483647 : Int32)) % (9 : Int32)))])) _
    rw [hp0]
    show Steps p.tables e below (s₁.setTop (mkF m 7 #[.val (.int p0), .unset, .unset, .unset] [(.int (3 : Int32))])) _
    refine XS.istoreN X0.here hx rfl (hb hby at_7) rfl (l' := #[.val (.int p0), .val (.int (3 : Int32)), .unset, .unset]) rfl ?_
    show Steps p.tables e below (s₁.setTop (mkF m 8 #[.val (.int p0), .val (.int (3 : Int32)), .unset, .unset] [])) _
    refine XS.iloadN X0.here hx rfl (hb hby at_8) rfl ?_
    show Steps p.tables e below (s₁.setTop (mkF m 9 #[.val (.int p0), .val (.int (3 : Int32)), .unset, .unset] [(.int (3 : Int32))])) _
    refine st1 _ ?_
    show Steps p.tables e below (T1.setTop (mkF m 12 #[.val (.int p0), .val (.int (3 : Int32)), .unset, .unset] [(.ref s_BOOLEAN)])) _
    refine XS.astoreN X1.here hx rfl (hb hby at_12) rfl rfl (l' := #[.val (.int p0), .val (.int (3 : Int32)), .val (.ref s_BOOLEAN), .unset]) rfl ?_
    show Steps p.tables e below (T1.setTop (mkF m 13 #[.val (.int p0), .val (.int (3 : Int32)), .val (.ref s_BOOLEAN), .unset] [])) _
    refine XS.iloadN X1.here hx rfl (hb hby at_13) rfl ?_
    show Steps p.tables e below (T1.setTop (mkF m 14 #[.val (.int p0), .val (.int (3 : Int32)), .val (.ref s_BOOLEAN), .unset] [(.int (3 : Int32))])) _
    refine XS.bipush X1.here hx rfl (hb hby at_14) ?_
    show Steps p.tables e below (T1.setTop (mkF m 16 #[.val (.int p0), .val (.int (3 : Int32)), .val (.ref s_BOOLEAN), .unset] [(.int (6 : Int32)), (.int (3 : Int32))])) _
    refine XS.icmpNo X1.here hx rfl (hb hby at_16) rfl (by decide +kernel) ?_
    show Steps p.tables e below (T1.setTop (mkF m 19 #[.val (.int p0), .val (.int (3 : Int32)), .val (.ref s_BOOLEAN), .unset] [])) _
    refine XS.iconst X1.here hx rfl (hb hby at_19) ?_
    show Steps p.tables e below (T1.setTop (mkF m 20 #[.val (.int p0), .val (.int (3 : Int32)), .val (.ref s_BOOLEAN), .unset] [(.int (1 : Int32))])) _
    refine XS.goto X1.here hx rfl (pc0 := 20) (pc' := 24) rfl (hb hby at_20) (by decide) (by decide) ?_
    show Steps p.tables e below (T1.setTop (mkF m 24 #[.val (.int p0), .val (.int (3 : Int32)), .val (.ref s_BOOLEAN), .unset] [(.int (1 : Int32))])) _
    refine XS.istoreN X1.here hx rfl (hb hby at_24) rfl (l' := #[.val (.int p0), .val (.int (3 : Int32)), .val (.ref s_BOOLEAN), .val (.int (1 : Int32))]) rfl ?_
    show Steps p.tables e below (T1.setTop (mkF m 25 #[.val (.int p0), .val (.int (3 : Int32)), .val (.ref s_BOOLEAN), .val (.int (1 : Int32))] [])) _
    refine XS.aloadN X1.here hx rfl (hb hby at_25) rfl rfl ?_
    show Steps p.tables e below (T1.setTop (mkF m 26 #[.val (.int p0), .val (.int (3 : Int32)), .val (.ref s_BOOLEAN), .val (.int (1 : Int32))] [(.ref s_BOOLEAN)])) _
    refine st2.trans ?_
    show Steps p.tables e below (T2.setTop (mkF m 29 #[.val (.int p0), .val (.int (3 : Int32)), .val (.ref s_BOOLEAN), .val (.int (1 : Int32))] [(.int (1 : Int32))])) _
    refine XS.iloadN X2.here hx rfl (hb hby at_29) rfl ?_
    show Steps p.tables e below (T2.setTop (mkF m 30 #[.val (.int p0), .val (.int (3 : Int32)), .val (.ref s_BOOLEAN), .val (.int (1 : Int32))] [(.int (1 : Int32)), (.int (1 : Int32))])) _
    refine XS.icmpNo X2.here hx rfl (hb hby at_30) rfl (by decide +kernel) ?_
    show Steps p.tables e below (T2.setTop (mkF m 33 #[.val (.int p0), .val (.int (3 : Int32)), .val (.ref s_BOOLEAN), .val (.int (1 : Int32))] [])) _
    refine XS.iconst X2.here hx rfl (hb hby at_33) ?_
    show Steps p.tables e below (T2.setTop (mkF m 34 #[.val (.int p0), .val (.int (3 : Int32)), .val (.ref s_BOOLEAN), .val (.int (1 : Int32))] [(.int (1 : Int32))])) _
    refine XS.goto X2.here hx rfl (pc0 := 34) (pc' := 38) rfl (hb hby at_34) (by decide) (by decide) ?_
    show Steps p.tables e below (T2.setTop (mkF m 38 #[.val (.int p0), .val (.int (3 : Int32)), .val (.ref s_BOOLEAN), .val (.int (1 : Int32))] [(.int (1 : Int32))])) _
    exact retN X2 hx (t := .boolean) Bd.returns (by simp) (hb hby at_38) hr
  · exact ⟨rfl, N2, e2⟩
set_option maxRecDepth 65536 in
set_option maxHeartbeats 40000000 in
theorem r12 (l : Launch) (Z : State) (a0 : Array Value) (hw : ∀ d ∈ tables_1, d.before a0 Z = true) (ws : List Jvm.Cond) (h0 : Heap) (n0 : Nat) (s_NULL : Addr) (s_BITS : Addr) (s_OPAQUE : Addr) (s_CONSTRUCTOR : Addr) (s_END : Addr) (s_STRING : Addr) (s_BOOLEAN : Addr) (s_INTEGER : Addr) (s_OCTETS : Addr) (K : Ctx Z h0 s_NULL s_BITS s_OPAQUE s_CONSTRUCTOR s_END s_STRING s_BOOLEAN s_INTEGER s_OCTETS) :
    MetFree l (⟨"com/example/plainwire/plainwire/rfc806/KindBarePinLaw", "pick", "(I)Lcom/example/plainwire/plainwire/rfc806/Element$Kind;"⟩ : MethodName) (head1 (Jvm.Cond.code (⟨"com/example/plainwire/plainwire/rfc806/KindBarePinLaw", "pick", "(I)Lcom/example/plainwire/plainwire/rfc806/Element$Kind;"⟩ : MethodName) method_2_code 1 (some (.object "com/example/plainwire/plainwire/rfc806/Element$Kind")) :: ws) ({ frames := 0, cells := 0, slots := 0, locals := 0 } : Room)) (fun a U => a = #[(.int (4 : Int32))] ∧ Z.Warmed39 U.vm ∧ U.heap = h0) (fun _ _ _ _ _ => True) (fun _ U o U' => ∃ v L, o = .returned v ∧ QV (.ref s_INTEGER) h0 n0 v U'.heap L ∧ FrameEnd U o U' L ({ frames := 0, cells := 0, slots := 0, locals := 0 } : Room).cells ({ frames := 0, cells := 0, slots := 0, locals := 0 } : Room).slots) := by
  obtain ⟨S_NULL, S_BITS, ne_BITS_NULL, S_OPAQUE, ne_NULL_OPAQUE, S_CONSTRUCTOR, ne_CONSTRUCTOR_NULL, E_NULL, S_END, ne_BITS_END, ne_END_OPAQUE, ne_CONSTRUCTOR_END, E_END, S_STRING, ne_BITS_STRING, ne_OPAQUE_STRING, ne_CONSTRUCTOR_STRING, E_STRING, S_BOOLEAN, ne_BITS_BOOLEAN, ne_BOOLEAN_OPAQUE, ne_BOOLEAN_CONSTRUCTOR, E_BOOLEAN, S_INTEGER, ne_BITS_INTEGER, ne_INTEGER_OPAQUE, ne_CONSTRUCTOR_INTEGER, E_INTEGER, S_OCTETS, ne_BITS_OCTETS, ne_OCTETS_OPAQUE, ne_CONSTRUCTOR_OCTETS, E_OCTETS, E_BITS, ne_BITS_OPAQUE, E_OPAQUE, ne_BITS_CONSTRUCTOR, ne_CONSTRUCTOR_OPAQUE, E_CONSTRUCTOR⟩ := id K
  refine MetFree.of_bodySF (plainFor_of_name pn0) hisR ?_
  intro p e s m args below meth c s₁ Bd hml0 hP hK
  obtain ⟨rfl, hZ, hh⟩ := hP
  have hx := Bd.exec
  have hby := Bd.bytes
  have hml : c.maxLocals = 1 := hml0
  have hown : s.vm.findClass "com/example/plainwire/plainwire/rfc806/KindBarePinLaw" = some m.cls := findClass_of_methodNamed Bd.named
  have X0 : Stand p l e ({ frames := 0, cells := 0, slots := 0, locals := 0 } : Room) s m #[(.int (4 : Int32))] below meth c s₁ [] 0 0 := Stand.of_body Bd
  have e0 : s₁.heap = h0 := by rw [← hh, Bd.state]; rfl
  have N0 := Fr.nil n0
  have pre0 : ∀ t, Steps p.tables e below (s₁.setTop (mkF m 0 #[.val (.int (4 : Int32))] [])) t → Steps p.tables e below (s₁.setTop (entryFrame m #[(.int (4 : Int32))] 1)) t := fun t k => castTop (by first | (simp [entryFrame, mkF, argsToLocals, Value.category]; done) | rfl) k
  obtain ⟨T1, X1, e1, st1⟩ := getS X0 hx hZ hown (host := "") (hw _ (List.mem_of_getElem? (i := 26) rfl)) Via.refl e0 S_INTEGER (g := (mkF m 40 #[.val (.int (4 : Int32))] [])) rfl (hb hby d0_40)
  obtain ⟨fs, hr, hrun, hended, hW, hsame⟩ := X1.leave (v := some (.ref s_INTEGER)) (fun h => by rw [Bd.returns] at h; cases h)
  refine ⟨_, _, pre0 _ ?_, hrun, hended, _, _, rfl, ?_, ⟨_, rfl⟩, hW, hsame.mono (by decide) (by decide)⟩
  · show Steps p.tables e below (s₁.setTop (mkF m 0 #[.val (.int (4 : Int32))] [])) _
    refine XS.iloadN X0.here hx rfl (hb hby d0_0) rfl ?_
    show Steps p.tables e below (s₁.setTop (mkF m 1 #[.val (.int (4 : Int32))] [(.int (4 : Int32))])) _
    refine XS.ifYes X0.here hx rfl (pc0 := 1) (pc' := 8) rfl (hb hby d0_1) rfl (by decide +kernel) (by decide) (by decide) ?_
    show Steps p.tables e below (s₁.setTop (mkF m 8 #[.val (.int (4 : Int32))] [])) _
    refine XS.iloadN X0.here hx rfl (hb hby d0_8) rfl ?_
    show Steps p.tables e below (s₁.setTop (mkF m 9 #[.val (.int (4 : Int32))] [(.int (4 : Int32))])) _
    refine XS.iconst X0.here hx rfl (hb hby d0_9) ?_
    show Steps p.tables e below (s₁.setTop (mkF m 10 #[.val (.int (4 : Int32))] [(.int (1 : Int32)), (.int (4 : Int32))])) _
    refine XS.icmpYes X0.here hx rfl (pc0 := 10) (pc' := 17) rfl (hb hby d0_10) rfl (by decide +kernel) (by decide) (by decide) ?_
    show Steps p.tables e below (s₁.setTop (mkF m 17 #[.val (.int (4 : Int32))] [])) _
    refine XS.iloadN X0.here hx rfl (hb hby d0_17) rfl ?_
    show Steps p.tables e below (s₁.setTop (mkF m 18 #[.val (.int (4 : Int32))] [(.int (4 : Int32))])) _
    refine XS.iconst X0.here hx rfl (hb hby d0_18) ?_
    show Steps p.tables e below (s₁.setTop (mkF m 19 #[.val (.int (4 : Int32))] [(.int (2 : Int32)), (.int (4 : Int32))])) _
    refine XS.icmpYes X0.here hx rfl (pc0 := 19) (pc' := 26) rfl (hb hby d0_19) rfl (by decide +kernel) (by decide) (by decide) ?_
    show Steps p.tables e below (s₁.setTop (mkF m 26 #[.val (.int (4 : Int32))] [])) _
    refine XS.iloadN X0.here hx rfl (hb hby d0_26) rfl ?_
    show Steps p.tables e below (s₁.setTop (mkF m 27 #[.val (.int (4 : Int32))] [(.int (4 : Int32))])) _
    refine XS.iconst X0.here hx rfl (hb hby d0_27) ?_
    show Steps p.tables e below (s₁.setTop (mkF m 28 #[.val (.int (4 : Int32))] [(.int (3 : Int32)), (.int (4 : Int32))])) _
    refine XS.icmpYes X0.here hx rfl (pc0 := 28) (pc' := 35) rfl (hb hby d0_28) rfl (by decide +kernel) (by decide) (by decide) ?_
    show Steps p.tables e below (s₁.setTop (mkF m 35 #[.val (.int (4 : Int32))] [])) _
    refine XS.iloadN X0.here hx rfl (hb hby d0_35) rfl ?_
    show Steps p.tables e below (s₁.setTop (mkF m 36 #[.val (.int (4 : Int32))] [(.int (4 : Int32))])) _
    refine XS.iconst X0.here hx rfl (hb hby d0_36) ?_
    show Steps p.tables e below (s₁.setTop (mkF m 37 #[.val (.int (4 : Int32))] [(.int (4 : Int32)), (.int (4 : Int32))])) _
    refine XS.icmpNo X0.here hx rfl (hb hby d0_37) rfl (by decide +kernel) ?_
    show Steps p.tables e below (s₁.setTop (mkF m 40 #[.val (.int (4 : Int32))] [])) _
    refine st1 _ ?_
    show Steps p.tables e below (T1.setTop (mkF m 43 #[.val (.int (4 : Int32))] [(.ref s_INTEGER)])) _
    exact retOut X1 hx (i := .areturn) Bd.returns rfl (Or.inr (Or.inr (Or.inr (Or.inr ⟨rfl, rfl, rfl⟩)))) (hb hby d0_43) hr
  · exact ⟨rfl, N0, e1⟩
set_option maxRecDepth 65536 in
set_option maxHeartbeats 40000000 in
theorem r13 (l : Launch) (Z : State) (a0 : Array Value) (hw : ∀ d ∈ tables_1, d.before a0 Z = true) (ws : List Jvm.Cond) (h0 : Heap) (n0 : Nat) (s_NULL : Addr) (s_BITS : Addr) (s_OPAQUE : Addr) (s_CONSTRUCTOR : Addr) (s_END : Addr) (s_STRING : Addr) (s_BOOLEAN : Addr) (s_INTEGER : Addr) (s_OCTETS : Addr) (K : Ctx Z h0 s_NULL s_BITS s_OPAQUE s_CONSTRUCTOR s_END s_STRING s_BOOLEAN s_INTEGER s_OCTETS) :
    MetFree l (⟨"com/example/plainwire/plainwire/rfc806/Element$Kind", "bare", "()Z"⟩ : MethodName) (head1 (Jvm.Cond.code (⟨"com/example/plainwire/plainwire/rfc806/Element$Kind", "bare", "()Z"⟩ : MethodName) prog_102_method_4_code 1 (some .boolean) :: ws) ({ frames := 0, cells := 0, slots := 0, locals := 0 } : Room)) (fun a U => a = #[(.ref s_INTEGER)] ∧ Z.Warmed39 U.vm ∧ U.heap = h0) (fun _ _ _ _ _ => True) (fun _ U o U' => ∃ v L, o = .returned v ∧ QV (.int (1 : Int32)) h0 n0 v U'.heap L ∧ FrameEnd U o U' L ({ frames := 0, cells := 0, slots := 0, locals := 0 } : Room).cells ({ frames := 0, cells := 0, slots := 0, locals := 0 } : Room).slots) := by
  obtain ⟨S_NULL, S_BITS, ne_BITS_NULL, S_OPAQUE, ne_NULL_OPAQUE, S_CONSTRUCTOR, ne_CONSTRUCTOR_NULL, E_NULL, S_END, ne_BITS_END, ne_END_OPAQUE, ne_CONSTRUCTOR_END, E_END, S_STRING, ne_BITS_STRING, ne_OPAQUE_STRING, ne_CONSTRUCTOR_STRING, E_STRING, S_BOOLEAN, ne_BITS_BOOLEAN, ne_BOOLEAN_OPAQUE, ne_BOOLEAN_CONSTRUCTOR, E_BOOLEAN, S_INTEGER, ne_BITS_INTEGER, ne_INTEGER_OPAQUE, ne_CONSTRUCTOR_INTEGER, E_INTEGER, S_OCTETS, ne_BITS_OCTETS, ne_OCTETS_OPAQUE, ne_CONSTRUCTOR_OCTETS, E_OCTETS, E_BITS, ne_BITS_OPAQUE, E_OPAQUE, ne_BITS_CONSTRUCTOR, ne_CONSTRUCTOR_OPAQUE, E_CONSTRUCTOR⟩ := id K
  refine MetFree.of_bodySF (plainFor_of_name pn1) hisR ?_
  intro p e s m args below meth c s₁ Bd hml0 hP hK
  obtain ⟨rfl, hZ, hh⟩ := hP
  have hx := Bd.exec
  have hby := Bd.bytes
  have hml : c.maxLocals = 1 := hml0
  have hown : s.vm.findClass "com/example/plainwire/plainwire/rfc806/Element$Kind" = some m.cls := findClass_of_methodNamed Bd.named
  have X0 : Stand p l e ({ frames := 0, cells := 0, slots := 0, locals := 0 } : Room) s m #[(.ref s_INTEGER)] below meth c s₁ [] 0 0 := Stand.of_body Bd
  have e0 : s₁.heap = h0 := by rw [← hh, Bd.state]; rfl
  have N0 := Fr.nil n0
  have pre0 : ∀ t, Steps p.tables e below (s₁.setTop (mkF m 0 #[.val (.ref s_INTEGER)] [])) t → Steps p.tables e below (s₁.setTop (entryFrame m #[(.ref s_INTEGER)] 1)) t := fun t k => castTop (by first | (simp [entryFrame, mkF, argsToLocals, Value.category]; done) | rfl) k
  obtain ⟨T1, X1, e1, st1⟩ := getS X0 hx hZ hown (host := "") (hw _ (List.mem_of_getElem? (i := 13) rfl)) Via.refl e0 S_BITS (g := (mkF m 1 #[.val (.ref s_INTEGER)] [(.ref s_INTEGER)])) rfl (hb hby d1_1)
  obtain ⟨T2, X2, e2, st2⟩ := getS X1 hx hZ hown (host := "") (hw _ (List.mem_of_getElem? (i := 15) rfl)) Via.refl e1 S_OPAQUE (g := (mkF m 8 #[.val (.ref s_INTEGER)] [(.ref s_INTEGER)])) rfl (hb hby d1_8)
  obtain ⟨T3, X3, e3, st3⟩ := getS X2 hx hZ hown (host := "") (hw _ (List.mem_of_getElem? (i := 17) rfl)) Via.refl e2 S_CONSTRUCTOR (g := (mkF m 15 #[.val (.ref s_INTEGER)] [(.ref s_INTEGER)])) rfl (hb hby d1_15)
  obtain ⟨fs, hr, hrun, hended, hW, hsame⟩ := X3.leave (v := some (.int (1 : Int32))) (fun h => by rw [Bd.returns] at h; cases h)
  refine ⟨_, _, pre0 _ ?_, hrun, hended, _, _, rfl, ?_, ⟨_, rfl⟩, hW, hsame.mono (by decide) (by decide)⟩
  · show Steps p.tables e below (s₁.setTop (mkF m 0 #[.val (.ref s_INTEGER)] [])) _
    refine XS.aloadN X0.here hx rfl (hb hby d1_0) rfl rfl ?_
    show Steps p.tables e below (s₁.setTop (mkF m 1 #[.val (.ref s_INTEGER)] [(.ref s_INTEGER)])) _
    refine st1 _ ?_
    show Steps p.tables e below (T1.setTop (mkF m 4 #[.val (.ref s_INTEGER)] [(.ref s_BITS), (.ref s_INTEGER)])) _
    refine Jvm.RoadKit.acmp (g := (mkF m 4 #[.val (.ref s_INTEGER)] [(.ref s_BITS), (.ref s_INTEGER)])) X1 hx rfl rfl rfl (pc0 := 4) (pc' := 7) (same := false) rfl (hb hby d1_4) rfl (decide_eq_false fun q => (Ne.symm ne_BITS_INTEGER) (Value.ref.inj q)) (by decide) (by decide) ?_
    show Steps p.tables e below (T1.setTop (mkF m 7 #[.val (.ref s_INTEGER)] [])) _
    refine XS.aloadN X1.here hx rfl (hb hby d1_7) rfl rfl ?_
    show Steps p.tables e below (T1.setTop (mkF m 8 #[.val (.ref s_INTEGER)] [(.ref s_INTEGER)])) _
    refine st2 _ ?_
    show Steps p.tables e below (T2.setTop (mkF m 11 #[.val (.ref s_INTEGER)] [(.ref s_OPAQUE), (.ref s_INTEGER)])) _
    refine Jvm.RoadKit.acmp (g := (mkF m 11 #[.val (.ref s_INTEGER)] [(.ref s_OPAQUE), (.ref s_INTEGER)])) X2 hx rfl rfl rfl (pc0 := 11) (pc' := 14) (same := false) rfl (hb hby d1_11) rfl (decide_eq_false fun q => ne_INTEGER_OPAQUE (Value.ref.inj q)) (by decide) (by decide) ?_
    show Steps p.tables e below (T2.setTop (mkF m 14 #[.val (.ref s_INTEGER)] [])) _
    refine XS.aloadN X2.here hx rfl (hb hby d1_14) rfl rfl ?_
    show Steps p.tables e below (T2.setTop (mkF m 15 #[.val (.ref s_INTEGER)] [(.ref s_INTEGER)])) _
    refine st3 _ ?_
    show Steps p.tables e below (T3.setTop (mkF m 18 #[.val (.ref s_INTEGER)] [(.ref s_CONSTRUCTOR), (.ref s_INTEGER)])) _
    refine Jvm.RoadKit.acmp (g := (mkF m 18 #[.val (.ref s_INTEGER)] [(.ref s_CONSTRUCTOR), (.ref s_INTEGER)])) X3 hx rfl rfl rfl (pc0 := 18) (pc' := 21) (same := false) rfl (hb hby d1_18) rfl (decide_eq_false fun q => (Ne.symm ne_CONSTRUCTOR_INTEGER) (Value.ref.inj q)) (by decide) (by decide) ?_
    show Steps p.tables e below (T3.setTop (mkF m 21 #[.val (.ref s_INTEGER)] [])) _
    refine XS.iconst X3.here hx rfl (hb hby d1_21) ?_
    show Steps p.tables e below (T3.setTop (mkF m 22 #[.val (.ref s_INTEGER)] [(.int (1 : Int32))])) _
    refine XS.goto X3.here hx rfl (pc0 := 22) (pc' := 26) rfl (hb hby d1_22) (by decide) (by decide) ?_
    show Steps p.tables e below (T3.setTop (mkF m 26 #[.val (.ref s_INTEGER)] [(.int (1 : Int32))])) _
    exact retN X3 hx (t := .boolean) Bd.returns (by simp) (hb hby d1_26) hr
  · exact ⟨rfl, N0, e3⟩
set_option maxRecDepth 65536 in
set_option maxHeartbeats 40000000 in
theorem law_k4 (l : Launch) (Z : State) (a0 : Array Value) (hw : ∀ d ∈ tables_1, d.before a0 Z = true) (ws : List Jvm.Cond) (h0 : Heap) (n0 : Nat) (s_NULL : Addr) (s_BITS : Addr) (s_OPAQUE : Addr) (s_CONSTRUCTOR : Addr) (s_END : Addr) (s_STRING : Addr) (s_BOOLEAN : Addr) (s_INTEGER : Addr) (s_OCTETS : Addr) (K : Ctx Z h0 s_NULL s_BITS s_OPAQUE s_CONSTRUCTOR s_END s_STRING s_BOOLEAN s_INTEGER s_OCTETS) (p0 : Int32) (hp0 : ((p0 &&& (2147483647 : Int32)) % (9 : Int32)) = (4 : Int32)) :
    MetFree l x (head1 (Jvm.Cond.code x code maxLocals ret :: ws) room_1) (fun a U => a = #[(.int p0)] ∧ Z.Warmed39 U.vm ∧ U.heap = h0) (fun _ _ _ _ _ => True) (fun _ U o U' => ∃ v L, o = .returned v ∧ QV (.int (1 : Int32)) h0 n0 v U'.heap L ∧ FrameEnd U o U' L room_1.cells room_1.slots) := by
  obtain ⟨S_NULL, S_BITS, ne_BITS_NULL, S_OPAQUE, ne_NULL_OPAQUE, S_CONSTRUCTOR, ne_CONSTRUCTOR_NULL, E_NULL, S_END, ne_BITS_END, ne_END_OPAQUE, ne_CONSTRUCTOR_END, E_END, S_STRING, ne_BITS_STRING, ne_OPAQUE_STRING, ne_CONSTRUCTOR_STRING, E_STRING, S_BOOLEAN, ne_BITS_BOOLEAN, ne_BOOLEAN_OPAQUE, ne_BOOLEAN_CONSTRUCTOR, E_BOOLEAN, S_INTEGER, ne_BITS_INTEGER, ne_INTEGER_OPAQUE, ne_CONSTRUCTOR_INTEGER, E_INTEGER, S_OCTETS, ne_BITS_OCTETS, ne_OCTETS_OPAQUE, ne_CONSTRUCTOR_OCTETS, E_OCTETS, E_BITS, ne_BITS_OPAQUE, E_OPAQUE, ne_BITS_CONSTRUCTOR, ne_CONSTRUCTOR_OPAQUE, E_CONSTRUCTOR⟩ := id K
  refine MetFree.of_bodySF (plainFor_of_name pn2) hisR ?_
  intro p e s m args below meth c s₁ Bd hml0 hP hK
  obtain ⟨rfl, hZ, hh⟩ := hP
  have hx := Bd.exec
  have hby := Bd.bytes
  have hml : c.maxLocals = 4 := hml0
  have hown : s.vm.findClass "com/example/plainwire/plainwire/rfc806/KindBarePinLaw" = some m.cls := findClass_of_methodNamed Bd.named
  have X0 : Stand p l e room_1 s m #[(.int p0)] below meth c s₁ [] 0 0 := Stand.of_body Bd
  have e0 : s₁.heap = h0 := by rw [← hh, Bd.state]; rfl
  have N0 := Fr.nil n0
  have pre0 : ∀ t, Steps p.tables e below (s₁.setTop (mkF m 0 #[.val (.int p0), .unset, .unset, .unset] [])) t → Steps p.tables e below (s₁.setTop (entryFrame m #[(.int p0)] maxLocals)) t := fun t k => castTop (by first | (simp [entryFrame, mkF, argsToLocals, Value.category, maxLocals]; done) | rfl) k
  obtain ⟨_, _, ⟨T1, L1, k1, n1⟩, -, X1, ⟨Lc1, hQ1, l1, y1, z1⟩, st1⟩ := Jvm.LawKit.callS X0 hx (y := (⟨"com/example/plainwire/plainwire/rfc806/KindBarePinLaw", "pick", "(I)Lcom/example/plainwire/plainwire/rfc806/Element$Kind;"⟩ : MethodName)) hown (mvT hZ (hw _ (List.mem_of_getElem? (i := 1) rfl))) (mvT hZ (hw _ (List.mem_of_getElem? (i := 2) rfl))) (mvT hZ (hw _ (List.mem_of_getElem? (i := 3) rfl))) (mvT hZ (hw _ (List.mem_of_getElem? (i := 4) rfl))) (by decide) (backOf (W := 0) (r12 l Z a0 hw [] h0 n0 s_NULL s_BITS s_OPAQUE s_CONSTRUCTOR s_END s_STRING s_BOOLEAN s_INTEGER s_OCTETS K) hZ (hw _ (List.mem_of_getElem? (i := 4) rfl)) (hw _ (List.mem_of_getElem? (i := 3) rfl)) (by decide) (by decide)) (g := (mkF m 9 #[.val (.int p0), .val (.int (4 : Int32)), .unset, .unset] [(.int (4 : Int32))])) rfl (by rw [hml]; rfl) (argsL := [(.int (4 : Int32))]) (rest := []) (lenOf pd0 rfl) rfl (by show 2 * 0 + _ ≤ _; exact Nat.le_of_eq rfl) (hb hby at_9) (fun _ _ => ⟨rfl, e0, (by decide : 0 + 0 ≤ _), (by decide : 0 + 0 ≤ _)⟩)
  dsimp only [Pt.U, Pt.locs, Pt.cells, Pt.slots] at X1 l1 y1 z1 st1 hQ1
  subst l1 y1 z1
  obtain ⟨rfl, N1q, e1⟩ := hQ1
  have N1 := Fr.app N0 N1q
  obtain ⟨cq2, kq2, q2a, q2b, q2c⟩ := isOf hZ e1 E_INTEGER
  obtain ⟨_, _, ⟨T2, L2, k2, n2⟩, -, X2, ⟨Lc2, hQ2, l2, y2, z2⟩, st2⟩ := X1.virtualBack hx (y := (⟨"com/example/plainwire/plainwire/rfc806/Element$Kind", "bare", "()Z"⟩ : MethodName)) (z := (⟨"com/example/plainwire/plainwire/rfc806/Element$Kind", "bare", "()Z"⟩ : MethodName)) hown (mvT hZ (hw _ (List.mem_of_getElem? (i := 8) rfl))) (mvT hZ (hw _ (List.mem_of_getElem? (i := 9) rfl))) (notFace_of_selects (args := #[]) (mvT hZ (hw _ (List.mem_of_getElem? (i := 11) rfl)))) (mvT hZ (hw _ (List.mem_of_getElem? (i := 11) rfl))) (mvT hZ (hw _ (List.mem_of_getElem? (i := 10) rfl))) (by decide) (backOf (W := 0) (r13 l Z a0 hw [] h0 n0 s_NULL s_BITS s_OPAQUE s_CONSTRUCTOR s_END s_STRING s_BOOLEAN s_INTEGER s_OCTETS K) hZ (hw _ (List.mem_of_getElem? (i := 12) rfl)) (hw _ (List.mem_of_getElem? (i := 6) rfl)) (by decide) (by decide)) q2a q2c (g := (mkF m 26 #[.val (.int p0), .val (.int (4 : Int32)), .val (.ref s_INTEGER), .val (.int (1 : Int32))] [(.ref s_INTEGER)])) rfl (by rw [hml]; rfl) (Steps.refl _) (argsL := []) (rest := []) (lenOf pd1 rfl) rfl (by show 2 * 0 + _ ≤ _; exact Nat.le_of_eq rfl) (hb hby at_26) (fun _ _ => ⟨rfl, e1, (by decide : 0 + 0 ≤ _), (by decide : 0 + 0 ≤ _)⟩)
  dsimp only [Pt.U, Pt.locs, Pt.cells, Pt.slots] at X2 l2 y2 z2 st2 hQ2
  subst l2 y2 z2
  obtain ⟨rfl, N2q, e2⟩ := hQ2
  have N2 := Fr.app N1 N2q
  obtain ⟨fs, hr, hrun, hended, hW, hsame⟩ := X2.leave (v := some (.int (1 : Int32))) (fun h => by rw [Bd.returns] at h; cases h)
  refine ⟨_, _, pre0 _ ?_, hrun, hended, _, _, rfl, ?_, ⟨_, rfl⟩, hW, hsame.mono (by decide) (by decide)⟩
  · show Steps p.tables e below (s₁.setTop (mkF m 0 #[.val (.int p0), .unset, .unset, .unset] [])) _
    refine XS.iloadN X0.here hx rfl (hb hby at_0) rfl ?_
    show Steps p.tables e below (s₁.setTop (mkF m 1 #[.val (.int p0), .unset, .unset, .unset] [(.int p0)])) _
    refine X0.ldcInt hx hown (mvT hZ (hw _ (List.mem_of_getElem? (i := 0) rfl))) (g := (mkF m 1 #[.val (.int p0), .unset, .unset, .unset] [(.int p0)])) rfl (hb hby at_1) _ ?_
    show Steps p.tables e below (s₁.setTop (mkF m 3 #[.val (.int p0), .unset, .unset, .unset] [(.int (2147483647 : Int32)), (.int p0)])) _
    refine XS.iand X0.here hx rfl (hb hby at_3) rfl ?_
    show Steps p.tables e below (s₁.setTop (mkF m 4 #[.val (.int p0), .unset, .unset, .unset] [(.int (p0 &&& (2147483647 : Int32)))])) _
    refine XS.bipush X0.here hx rfl (hb hby at_4) ?_
    show Steps p.tables e below (s₁.setTop (mkF m 6 #[.val (.int p0), .unset, .unset, .unset] [(.int (9 : Int32)), (.int (p0 &&& (2147483647 : Int32)))])) _
    refine Jvm.RoadKit.iremM X0 hx rfl (hb hby at_6) rfl (by decide) ?_
    show Steps p.tables e below (s₁.setTop (mkF m 7 #[.val (.int p0), .unset, .unset, .unset] [(.int ((p0 &&& (2147483647 : Int32)) % (9 : Int32)))])) _
    rw [hp0]
    show Steps p.tables e below (s₁.setTop (mkF m 7 #[.val (.int p0), .unset, .unset, .unset] [(.int (4 : Int32))])) _
    refine XS.istoreN X0.here hx rfl (hb hby at_7) rfl (l' := #[.val (.int p0), .val (.int (4 : Int32)), .unset, .unset]) rfl ?_
    show Steps p.tables e below (s₁.setTop (mkF m 8 #[.val (.int p0), .val (.int (4 : Int32)), .unset, .unset] [])) _
    refine XS.iloadN X0.here hx rfl (hb hby at_8) rfl ?_
    show Steps p.tables e below (s₁.setTop (mkF m 9 #[.val (.int p0), .val (.int (4 : Int32)), .unset, .unset] [(.int (4 : Int32))])) _
    refine st1 _ ?_
    show Steps p.tables e below (T1.setTop (mkF m 12 #[.val (.int p0), .val (.int (4 : Int32)), .unset, .unset] [(.ref s_INTEGER)])) _
    refine XS.astoreN X1.here hx rfl (hb hby at_12) rfl rfl (l' := #[.val (.int p0), .val (.int (4 : Int32)), .val (.ref s_INTEGER), .unset]) rfl ?_
    show Steps p.tables e below (T1.setTop (mkF m 13 #[.val (.int p0), .val (.int (4 : Int32)), .val (.ref s_INTEGER), .unset] [])) _
    refine XS.iloadN X1.here hx rfl (hb hby at_13) rfl ?_
    show Steps p.tables e below (T1.setTop (mkF m 14 #[.val (.int p0), .val (.int (4 : Int32)), .val (.ref s_INTEGER), .unset] [(.int (4 : Int32))])) _
    refine XS.bipush X1.here hx rfl (hb hby at_14) ?_
    show Steps p.tables e below (T1.setTop (mkF m 16 #[.val (.int p0), .val (.int (4 : Int32)), .val (.ref s_INTEGER), .unset] [(.int (6 : Int32)), (.int (4 : Int32))])) _
    refine XS.icmpNo X1.here hx rfl (hb hby at_16) rfl (by decide +kernel) ?_
    show Steps p.tables e below (T1.setTop (mkF m 19 #[.val (.int p0), .val (.int (4 : Int32)), .val (.ref s_INTEGER), .unset] [])) _
    refine XS.iconst X1.here hx rfl (hb hby at_19) ?_
    show Steps p.tables e below (T1.setTop (mkF m 20 #[.val (.int p0), .val (.int (4 : Int32)), .val (.ref s_INTEGER), .unset] [(.int (1 : Int32))])) _
    refine XS.goto X1.here hx rfl (pc0 := 20) (pc' := 24) rfl (hb hby at_20) (by decide) (by decide) ?_
    show Steps p.tables e below (T1.setTop (mkF m 24 #[.val (.int p0), .val (.int (4 : Int32)), .val (.ref s_INTEGER), .unset] [(.int (1 : Int32))])) _
    refine XS.istoreN X1.here hx rfl (hb hby at_24) rfl (l' := #[.val (.int p0), .val (.int (4 : Int32)), .val (.ref s_INTEGER), .val (.int (1 : Int32))]) rfl ?_
    show Steps p.tables e below (T1.setTop (mkF m 25 #[.val (.int p0), .val (.int (4 : Int32)), .val (.ref s_INTEGER), .val (.int (1 : Int32))] [])) _
    refine XS.aloadN X1.here hx rfl (hb hby at_25) rfl rfl ?_
    show Steps p.tables e below (T1.setTop (mkF m 26 #[.val (.int p0), .val (.int (4 : Int32)), .val (.ref s_INTEGER), .val (.int (1 : Int32))] [(.ref s_INTEGER)])) _
    refine st2.trans ?_
    show Steps p.tables e below (T2.setTop (mkF m 29 #[.val (.int p0), .val (.int (4 : Int32)), .val (.ref s_INTEGER), .val (.int (1 : Int32))] [(.int (1 : Int32))])) _
    refine XS.iloadN X2.here hx rfl (hb hby at_29) rfl ?_
    show Steps p.tables e below (T2.setTop (mkF m 30 #[.val (.int p0), .val (.int (4 : Int32)), .val (.ref s_INTEGER), .val (.int (1 : Int32))] [(.int (1 : Int32)), (.int (1 : Int32))])) _
    refine XS.icmpNo X2.here hx rfl (hb hby at_30) rfl (by decide +kernel) ?_
    show Steps p.tables e below (T2.setTop (mkF m 33 #[.val (.int p0), .val (.int (4 : Int32)), .val (.ref s_INTEGER), .val (.int (1 : Int32))] [])) _
    refine XS.iconst X2.here hx rfl (hb hby at_33) ?_
    show Steps p.tables e below (T2.setTop (mkF m 34 #[.val (.int p0), .val (.int (4 : Int32)), .val (.ref s_INTEGER), .val (.int (1 : Int32))] [(.int (1 : Int32))])) _
    refine XS.goto X2.here hx rfl (pc0 := 34) (pc' := 38) rfl (hb hby at_34) (by decide) (by decide) ?_
    show Steps p.tables e below (T2.setTop (mkF m 38 #[.val (.int p0), .val (.int (4 : Int32)), .val (.ref s_INTEGER), .val (.int (1 : Int32))] [(.int (1 : Int32))])) _
    exact retN X2 hx (t := .boolean) Bd.returns (by simp) (hb hby at_38) hr
  · exact ⟨rfl, N2, e2⟩
set_option maxRecDepth 65536 in
set_option maxHeartbeats 40000000 in
theorem r15 (l : Launch) (Z : State) (a0 : Array Value) (hw : ∀ d ∈ tables_1, d.before a0 Z = true) (ws : List Jvm.Cond) (h0 : Heap) (n0 : Nat) (s_NULL : Addr) (s_BITS : Addr) (s_OPAQUE : Addr) (s_CONSTRUCTOR : Addr) (s_END : Addr) (s_STRING : Addr) (s_BOOLEAN : Addr) (s_INTEGER : Addr) (s_OCTETS : Addr) (K : Ctx Z h0 s_NULL s_BITS s_OPAQUE s_CONSTRUCTOR s_END s_STRING s_BOOLEAN s_INTEGER s_OCTETS) :
    MetFree l (⟨"com/example/plainwire/plainwire/rfc806/KindBarePinLaw", "pick", "(I)Lcom/example/plainwire/plainwire/rfc806/Element$Kind;"⟩ : MethodName) (head1 (Jvm.Cond.code (⟨"com/example/plainwire/plainwire/rfc806/KindBarePinLaw", "pick", "(I)Lcom/example/plainwire/plainwire/rfc806/Element$Kind;"⟩ : MethodName) method_2_code 1 (some (.object "com/example/plainwire/plainwire/rfc806/Element$Kind")) :: ws) ({ frames := 0, cells := 0, slots := 0, locals := 0 } : Room)) (fun a U => a = #[(.int (5 : Int32))] ∧ Z.Warmed39 U.vm ∧ U.heap = h0) (fun _ _ _ _ _ => True) (fun _ U o U' => ∃ v L, o = .returned v ∧ QV (.ref s_OCTETS) h0 n0 v U'.heap L ∧ FrameEnd U o U' L ({ frames := 0, cells := 0, slots := 0, locals := 0 } : Room).cells ({ frames := 0, cells := 0, slots := 0, locals := 0 } : Room).slots) := by
  obtain ⟨S_NULL, S_BITS, ne_BITS_NULL, S_OPAQUE, ne_NULL_OPAQUE, S_CONSTRUCTOR, ne_CONSTRUCTOR_NULL, E_NULL, S_END, ne_BITS_END, ne_END_OPAQUE, ne_CONSTRUCTOR_END, E_END, S_STRING, ne_BITS_STRING, ne_OPAQUE_STRING, ne_CONSTRUCTOR_STRING, E_STRING, S_BOOLEAN, ne_BITS_BOOLEAN, ne_BOOLEAN_OPAQUE, ne_BOOLEAN_CONSTRUCTOR, E_BOOLEAN, S_INTEGER, ne_BITS_INTEGER, ne_INTEGER_OPAQUE, ne_CONSTRUCTOR_INTEGER, E_INTEGER, S_OCTETS, ne_BITS_OCTETS, ne_OCTETS_OPAQUE, ne_CONSTRUCTOR_OCTETS, E_OCTETS, E_BITS, ne_BITS_OPAQUE, E_OPAQUE, ne_BITS_CONSTRUCTOR, ne_CONSTRUCTOR_OPAQUE, E_CONSTRUCTOR⟩ := id K
  refine MetFree.of_bodySF (plainFor_of_name pn0) hisR ?_
  intro p e s m args below meth c s₁ Bd hml0 hP hK
  obtain ⟨rfl, hZ, hh⟩ := hP
  have hx := Bd.exec
  have hby := Bd.bytes
  have hml : c.maxLocals = 1 := hml0
  have hown : s.vm.findClass "com/example/plainwire/plainwire/rfc806/KindBarePinLaw" = some m.cls := findClass_of_methodNamed Bd.named
  have X0 : Stand p l e ({ frames := 0, cells := 0, slots := 0, locals := 0 } : Room) s m #[(.int (5 : Int32))] below meth c s₁ [] 0 0 := Stand.of_body Bd
  have e0 : s₁.heap = h0 := by rw [← hh, Bd.state]; rfl
  have N0 := Fr.nil n0
  have pre0 : ∀ t, Steps p.tables e below (s₁.setTop (mkF m 0 #[.val (.int (5 : Int32))] [])) t → Steps p.tables e below (s₁.setTop (entryFrame m #[(.int (5 : Int32))] 1)) t := fun t k => castTop (by first | (simp [entryFrame, mkF, argsToLocals, Value.category]; done) | rfl) k
  obtain ⟨T1, X1, e1, st1⟩ := getS X0 hx hZ hown (host := "") (hw _ (List.mem_of_getElem? (i := 30) rfl)) Via.refl e0 S_OCTETS (g := (mkF m 49 #[.val (.int (5 : Int32))] [])) rfl (hb hby d0_49)
  obtain ⟨fs, hr, hrun, hended, hW, hsame⟩ := X1.leave (v := some (.ref s_OCTETS)) (fun h => by rw [Bd.returns] at h; cases h)
  refine ⟨_, _, pre0 _ ?_, hrun, hended, _, _, rfl, ?_, ⟨_, rfl⟩, hW, hsame.mono (by decide) (by decide)⟩
  · show Steps p.tables e below (s₁.setTop (mkF m 0 #[.val (.int (5 : Int32))] [])) _
    refine XS.iloadN X0.here hx rfl (hb hby d0_0) rfl ?_
    show Steps p.tables e below (s₁.setTop (mkF m 1 #[.val (.int (5 : Int32))] [(.int (5 : Int32))])) _
    refine XS.ifYes X0.here hx rfl (pc0 := 1) (pc' := 8) rfl (hb hby d0_1) rfl (by decide +kernel) (by decide) (by decide) ?_
    show Steps p.tables e below (s₁.setTop (mkF m 8 #[.val (.int (5 : Int32))] [])) _
    refine XS.iloadN X0.here hx rfl (hb hby d0_8) rfl ?_
    show Steps p.tables e below (s₁.setTop (mkF m 9 #[.val (.int (5 : Int32))] [(.int (5 : Int32))])) _
    refine XS.iconst X0.here hx rfl (hb hby d0_9) ?_
    show Steps p.tables e below (s₁.setTop (mkF m 10 #[.val (.int (5 : Int32))] [(.int (1 : Int32)), (.int (5 : Int32))])) _
    refine XS.icmpYes X0.here hx rfl (pc0 := 10) (pc' := 17) rfl (hb hby d0_10) rfl (by decide +kernel) (by decide) (by decide) ?_
    show Steps p.tables e below (s₁.setTop (mkF m 17 #[.val (.int (5 : Int32))] [])) _
    refine XS.iloadN X0.here hx rfl (hb hby d0_17) rfl ?_
    show Steps p.tables e below (s₁.setTop (mkF m 18 #[.val (.int (5 : Int32))] [(.int (5 : Int32))])) _
    refine XS.iconst X0.here hx rfl (hb hby d0_18) ?_
    show Steps p.tables e below (s₁.setTop (mkF m 19 #[.val (.int (5 : Int32))] [(.int (2 : Int32)), (.int (5 : Int32))])) _
    refine XS.icmpYes X0.here hx rfl (pc0 := 19) (pc' := 26) rfl (hb hby d0_19) rfl (by decide +kernel) (by decide) (by decide) ?_
    show Steps p.tables e below (s₁.setTop (mkF m 26 #[.val (.int (5 : Int32))] [])) _
    refine XS.iloadN X0.here hx rfl (hb hby d0_26) rfl ?_
    show Steps p.tables e below (s₁.setTop (mkF m 27 #[.val (.int (5 : Int32))] [(.int (5 : Int32))])) _
    refine XS.iconst X0.here hx rfl (hb hby d0_27) ?_
    show Steps p.tables e below (s₁.setTop (mkF m 28 #[.val (.int (5 : Int32))] [(.int (3 : Int32)), (.int (5 : Int32))])) _
    refine XS.icmpYes X0.here hx rfl (pc0 := 28) (pc' := 35) rfl (hb hby d0_28) rfl (by decide +kernel) (by decide) (by decide) ?_
    show Steps p.tables e below (s₁.setTop (mkF m 35 #[.val (.int (5 : Int32))] [])) _
    refine XS.iloadN X0.here hx rfl (hb hby d0_35) rfl ?_
    show Steps p.tables e below (s₁.setTop (mkF m 36 #[.val (.int (5 : Int32))] [(.int (5 : Int32))])) _
    refine XS.iconst X0.here hx rfl (hb hby d0_36) ?_
    show Steps p.tables e below (s₁.setTop (mkF m 37 #[.val (.int (5 : Int32))] [(.int (4 : Int32)), (.int (5 : Int32))])) _
    refine XS.icmpYes X0.here hx rfl (pc0 := 37) (pc' := 44) rfl (hb hby d0_37) rfl (by decide +kernel) (by decide) (by decide) ?_
    show Steps p.tables e below (s₁.setTop (mkF m 44 #[.val (.int (5 : Int32))] [])) _
    refine XS.iloadN X0.here hx rfl (hb hby d0_44) rfl ?_
    show Steps p.tables e below (s₁.setTop (mkF m 45 #[.val (.int (5 : Int32))] [(.int (5 : Int32))])) _
    refine XS.iconst X0.here hx rfl (hb hby d0_45) ?_
    show Steps p.tables e below (s₁.setTop (mkF m 46 #[.val (.int (5 : Int32))] [(.int (5 : Int32)), (.int (5 : Int32))])) _
    refine XS.icmpNo X0.here hx rfl (hb hby d0_46) rfl (by decide +kernel) ?_
    show Steps p.tables e below (s₁.setTop (mkF m 49 #[.val (.int (5 : Int32))] [])) _
    refine st1 _ ?_
    show Steps p.tables e below (T1.setTop (mkF m 52 #[.val (.int (5 : Int32))] [(.ref s_OCTETS)])) _
    exact retOut X1 hx (i := .areturn) Bd.returns rfl (Or.inr (Or.inr (Or.inr (Or.inr ⟨rfl, rfl, rfl⟩)))) (hb hby d0_52) hr
  · exact ⟨rfl, N0, e1⟩
set_option maxRecDepth 65536 in
set_option maxHeartbeats 40000000 in
theorem r16 (l : Launch) (Z : State) (a0 : Array Value) (hw : ∀ d ∈ tables_1, d.before a0 Z = true) (ws : List Jvm.Cond) (h0 : Heap) (n0 : Nat) (s_NULL : Addr) (s_BITS : Addr) (s_OPAQUE : Addr) (s_CONSTRUCTOR : Addr) (s_END : Addr) (s_STRING : Addr) (s_BOOLEAN : Addr) (s_INTEGER : Addr) (s_OCTETS : Addr) (K : Ctx Z h0 s_NULL s_BITS s_OPAQUE s_CONSTRUCTOR s_END s_STRING s_BOOLEAN s_INTEGER s_OCTETS) :
    MetFree l (⟨"com/example/plainwire/plainwire/rfc806/Element$Kind", "bare", "()Z"⟩ : MethodName) (head1 (Jvm.Cond.code (⟨"com/example/plainwire/plainwire/rfc806/Element$Kind", "bare", "()Z"⟩ : MethodName) prog_102_method_4_code 1 (some .boolean) :: ws) ({ frames := 0, cells := 0, slots := 0, locals := 0 } : Room)) (fun a U => a = #[(.ref s_OCTETS)] ∧ Z.Warmed39 U.vm ∧ U.heap = h0) (fun _ _ _ _ _ => True) (fun _ U o U' => ∃ v L, o = .returned v ∧ QV (.int (1 : Int32)) h0 n0 v U'.heap L ∧ FrameEnd U o U' L ({ frames := 0, cells := 0, slots := 0, locals := 0 } : Room).cells ({ frames := 0, cells := 0, slots := 0, locals := 0 } : Room).slots) := by
  obtain ⟨S_NULL, S_BITS, ne_BITS_NULL, S_OPAQUE, ne_NULL_OPAQUE, S_CONSTRUCTOR, ne_CONSTRUCTOR_NULL, E_NULL, S_END, ne_BITS_END, ne_END_OPAQUE, ne_CONSTRUCTOR_END, E_END, S_STRING, ne_BITS_STRING, ne_OPAQUE_STRING, ne_CONSTRUCTOR_STRING, E_STRING, S_BOOLEAN, ne_BITS_BOOLEAN, ne_BOOLEAN_OPAQUE, ne_BOOLEAN_CONSTRUCTOR, E_BOOLEAN, S_INTEGER, ne_BITS_INTEGER, ne_INTEGER_OPAQUE, ne_CONSTRUCTOR_INTEGER, E_INTEGER, S_OCTETS, ne_BITS_OCTETS, ne_OCTETS_OPAQUE, ne_CONSTRUCTOR_OCTETS, E_OCTETS, E_BITS, ne_BITS_OPAQUE, E_OPAQUE, ne_BITS_CONSTRUCTOR, ne_CONSTRUCTOR_OPAQUE, E_CONSTRUCTOR⟩ := id K
  refine MetFree.of_bodySF (plainFor_of_name pn1) hisR ?_
  intro p e s m args below meth c s₁ Bd hml0 hP hK
  obtain ⟨rfl, hZ, hh⟩ := hP
  have hx := Bd.exec
  have hby := Bd.bytes
  have hml : c.maxLocals = 1 := hml0
  have hown : s.vm.findClass "com/example/plainwire/plainwire/rfc806/Element$Kind" = some m.cls := findClass_of_methodNamed Bd.named
  have X0 : Stand p l e ({ frames := 0, cells := 0, slots := 0, locals := 0 } : Room) s m #[(.ref s_OCTETS)] below meth c s₁ [] 0 0 := Stand.of_body Bd
  have e0 : s₁.heap = h0 := by rw [← hh, Bd.state]; rfl
  have N0 := Fr.nil n0
  have pre0 : ∀ t, Steps p.tables e below (s₁.setTop (mkF m 0 #[.val (.ref s_OCTETS)] [])) t → Steps p.tables e below (s₁.setTop (entryFrame m #[(.ref s_OCTETS)] 1)) t := fun t k => castTop (by first | (simp [entryFrame, mkF, argsToLocals, Value.category]; done) | rfl) k
  obtain ⟨T1, X1, e1, st1⟩ := getS X0 hx hZ hown (host := "") (hw _ (List.mem_of_getElem? (i := 13) rfl)) Via.refl e0 S_BITS (g := (mkF m 1 #[.val (.ref s_OCTETS)] [(.ref s_OCTETS)])) rfl (hb hby d1_1)
  obtain ⟨T2, X2, e2, st2⟩ := getS X1 hx hZ hown (host := "") (hw _ (List.mem_of_getElem? (i := 15) rfl)) Via.refl e1 S_OPAQUE (g := (mkF m 8 #[.val (.ref s_OCTETS)] [(.ref s_OCTETS)])) rfl (hb hby d1_8)
  obtain ⟨T3, X3, e3, st3⟩ := getS X2 hx hZ hown (host := "") (hw _ (List.mem_of_getElem? (i := 17) rfl)) Via.refl e2 S_CONSTRUCTOR (g := (mkF m 15 #[.val (.ref s_OCTETS)] [(.ref s_OCTETS)])) rfl (hb hby d1_15)
  obtain ⟨fs, hr, hrun, hended, hW, hsame⟩ := X3.leave (v := some (.int (1 : Int32))) (fun h => by rw [Bd.returns] at h; cases h)
  refine ⟨_, _, pre0 _ ?_, hrun, hended, _, _, rfl, ?_, ⟨_, rfl⟩, hW, hsame.mono (by decide) (by decide)⟩
  · show Steps p.tables e below (s₁.setTop (mkF m 0 #[.val (.ref s_OCTETS)] [])) _
    refine XS.aloadN X0.here hx rfl (hb hby d1_0) rfl rfl ?_
    show Steps p.tables e below (s₁.setTop (mkF m 1 #[.val (.ref s_OCTETS)] [(.ref s_OCTETS)])) _
    refine st1 _ ?_
    show Steps p.tables e below (T1.setTop (mkF m 4 #[.val (.ref s_OCTETS)] [(.ref s_BITS), (.ref s_OCTETS)])) _
    refine Jvm.RoadKit.acmp (g := (mkF m 4 #[.val (.ref s_OCTETS)] [(.ref s_BITS), (.ref s_OCTETS)])) X1 hx rfl rfl rfl (pc0 := 4) (pc' := 7) (same := false) rfl (hb hby d1_4) rfl (decide_eq_false fun q => (Ne.symm ne_BITS_OCTETS) (Value.ref.inj q)) (by decide) (by decide) ?_
    show Steps p.tables e below (T1.setTop (mkF m 7 #[.val (.ref s_OCTETS)] [])) _
    refine XS.aloadN X1.here hx rfl (hb hby d1_7) rfl rfl ?_
    show Steps p.tables e below (T1.setTop (mkF m 8 #[.val (.ref s_OCTETS)] [(.ref s_OCTETS)])) _
    refine st2 _ ?_
    show Steps p.tables e below (T2.setTop (mkF m 11 #[.val (.ref s_OCTETS)] [(.ref s_OPAQUE), (.ref s_OCTETS)])) _
    refine Jvm.RoadKit.acmp (g := (mkF m 11 #[.val (.ref s_OCTETS)] [(.ref s_OPAQUE), (.ref s_OCTETS)])) X2 hx rfl rfl rfl (pc0 := 11) (pc' := 14) (same := false) rfl (hb hby d1_11) rfl (decide_eq_false fun q => ne_OCTETS_OPAQUE (Value.ref.inj q)) (by decide) (by decide) ?_
    show Steps p.tables e below (T2.setTop (mkF m 14 #[.val (.ref s_OCTETS)] [])) _
    refine XS.aloadN X2.here hx rfl (hb hby d1_14) rfl rfl ?_
    show Steps p.tables e below (T2.setTop (mkF m 15 #[.val (.ref s_OCTETS)] [(.ref s_OCTETS)])) _
    refine st3 _ ?_
    show Steps p.tables e below (T3.setTop (mkF m 18 #[.val (.ref s_OCTETS)] [(.ref s_CONSTRUCTOR), (.ref s_OCTETS)])) _
    refine Jvm.RoadKit.acmp (g := (mkF m 18 #[.val (.ref s_OCTETS)] [(.ref s_CONSTRUCTOR), (.ref s_OCTETS)])) X3 hx rfl rfl rfl (pc0 := 18) (pc' := 21) (same := false) rfl (hb hby d1_18) rfl (decide_eq_false fun q => (Ne.symm ne_CONSTRUCTOR_OCTETS) (Value.ref.inj q)) (by decide) (by decide) ?_
    show Steps p.tables e below (T3.setTop (mkF m 21 #[.val (.ref s_OCTETS)] [])) _
    refine XS.iconst X3.here hx rfl (hb hby d1_21) ?_
    show Steps p.tables e below (T3.setTop (mkF m 22 #[.val (.ref s_OCTETS)] [(.int (1 : Int32))])) _
    refine XS.goto X3.here hx rfl (pc0 := 22) (pc' := 26) rfl (hb hby d1_22) (by decide) (by decide) ?_
    show Steps p.tables e below (T3.setTop (mkF m 26 #[.val (.ref s_OCTETS)] [(.int (1 : Int32))])) _
    exact retN X3 hx (t := .boolean) Bd.returns (by simp) (hb hby d1_26) hr
  · exact ⟨rfl, N0, e3⟩
set_option maxRecDepth 65536 in
set_option maxHeartbeats 40000000 in
theorem law_k5 (l : Launch) (Z : State) (a0 : Array Value) (hw : ∀ d ∈ tables_1, d.before a0 Z = true) (ws : List Jvm.Cond) (h0 : Heap) (n0 : Nat) (s_NULL : Addr) (s_BITS : Addr) (s_OPAQUE : Addr) (s_CONSTRUCTOR : Addr) (s_END : Addr) (s_STRING : Addr) (s_BOOLEAN : Addr) (s_INTEGER : Addr) (s_OCTETS : Addr) (K : Ctx Z h0 s_NULL s_BITS s_OPAQUE s_CONSTRUCTOR s_END s_STRING s_BOOLEAN s_INTEGER s_OCTETS) (p0 : Int32) (hp0 : ((p0 &&& (2147483647 : Int32)) % (9 : Int32)) = (5 : Int32)) :
    MetFree l x (head1 (Jvm.Cond.code x code maxLocals ret :: ws) room_1) (fun a U => a = #[(.int p0)] ∧ Z.Warmed39 U.vm ∧ U.heap = h0) (fun _ _ _ _ _ => True) (fun _ U o U' => ∃ v L, o = .returned v ∧ QV (.int (1 : Int32)) h0 n0 v U'.heap L ∧ FrameEnd U o U' L room_1.cells room_1.slots) := by
  obtain ⟨S_NULL, S_BITS, ne_BITS_NULL, S_OPAQUE, ne_NULL_OPAQUE, S_CONSTRUCTOR, ne_CONSTRUCTOR_NULL, E_NULL, S_END, ne_BITS_END, ne_END_OPAQUE, ne_CONSTRUCTOR_END, E_END, S_STRING, ne_BITS_STRING, ne_OPAQUE_STRING, ne_CONSTRUCTOR_STRING, E_STRING, S_BOOLEAN, ne_BITS_BOOLEAN, ne_BOOLEAN_OPAQUE, ne_BOOLEAN_CONSTRUCTOR, E_BOOLEAN, S_INTEGER, ne_BITS_INTEGER, ne_INTEGER_OPAQUE, ne_CONSTRUCTOR_INTEGER, E_INTEGER, S_OCTETS, ne_BITS_OCTETS, ne_OCTETS_OPAQUE, ne_CONSTRUCTOR_OCTETS, E_OCTETS, E_BITS, ne_BITS_OPAQUE, E_OPAQUE, ne_BITS_CONSTRUCTOR, ne_CONSTRUCTOR_OPAQUE, E_CONSTRUCTOR⟩ := id K
  refine MetFree.of_bodySF (plainFor_of_name pn2) hisR ?_
  intro p e s m args below meth c s₁ Bd hml0 hP hK
  obtain ⟨rfl, hZ, hh⟩ := hP
  have hx := Bd.exec
  have hby := Bd.bytes
  have hml : c.maxLocals = 4 := hml0
  have hown : s.vm.findClass "com/example/plainwire/plainwire/rfc806/KindBarePinLaw" = some m.cls := findClass_of_methodNamed Bd.named
  have X0 : Stand p l e room_1 s m #[(.int p0)] below meth c s₁ [] 0 0 := Stand.of_body Bd
  have e0 : s₁.heap = h0 := by rw [← hh, Bd.state]; rfl
  have N0 := Fr.nil n0
  have pre0 : ∀ t, Steps p.tables e below (s₁.setTop (mkF m 0 #[.val (.int p0), .unset, .unset, .unset] [])) t → Steps p.tables e below (s₁.setTop (entryFrame m #[(.int p0)] maxLocals)) t := fun t k => castTop (by first | (simp [entryFrame, mkF, argsToLocals, Value.category, maxLocals]; done) | rfl) k
  obtain ⟨_, _, ⟨T1, L1, k1, n1⟩, -, X1, ⟨Lc1, hQ1, l1, y1, z1⟩, st1⟩ := Jvm.LawKit.callS X0 hx (y := (⟨"com/example/plainwire/plainwire/rfc806/KindBarePinLaw", "pick", "(I)Lcom/example/plainwire/plainwire/rfc806/Element$Kind;"⟩ : MethodName)) hown (mvT hZ (hw _ (List.mem_of_getElem? (i := 1) rfl))) (mvT hZ (hw _ (List.mem_of_getElem? (i := 2) rfl))) (mvT hZ (hw _ (List.mem_of_getElem? (i := 3) rfl))) (mvT hZ (hw _ (List.mem_of_getElem? (i := 4) rfl))) (by decide) (backOf (W := 0) (r15 l Z a0 hw [] h0 n0 s_NULL s_BITS s_OPAQUE s_CONSTRUCTOR s_END s_STRING s_BOOLEAN s_INTEGER s_OCTETS K) hZ (hw _ (List.mem_of_getElem? (i := 4) rfl)) (hw _ (List.mem_of_getElem? (i := 3) rfl)) (by decide) (by decide)) (g := (mkF m 9 #[.val (.int p0), .val (.int (5 : Int32)), .unset, .unset] [(.int (5 : Int32))])) rfl (by rw [hml]; rfl) (argsL := [(.int (5 : Int32))]) (rest := []) (lenOf pd0 rfl) rfl (by show 2 * 0 + _ ≤ _; exact Nat.le_of_eq rfl) (hb hby at_9) (fun _ _ => ⟨rfl, e0, (by decide : 0 + 0 ≤ _), (by decide : 0 + 0 ≤ _)⟩)
  dsimp only [Pt.U, Pt.locs, Pt.cells, Pt.slots] at X1 l1 y1 z1 st1 hQ1
  subst l1 y1 z1
  obtain ⟨rfl, N1q, e1⟩ := hQ1
  have N1 := Fr.app N0 N1q
  obtain ⟨cq2, kq2, q2a, q2b, q2c⟩ := isOf hZ e1 E_OCTETS
  obtain ⟨_, _, ⟨T2, L2, k2, n2⟩, -, X2, ⟨Lc2, hQ2, l2, y2, z2⟩, st2⟩ := X1.virtualBack hx (y := (⟨"com/example/plainwire/plainwire/rfc806/Element$Kind", "bare", "()Z"⟩ : MethodName)) (z := (⟨"com/example/plainwire/plainwire/rfc806/Element$Kind", "bare", "()Z"⟩ : MethodName)) hown (mvT hZ (hw _ (List.mem_of_getElem? (i := 8) rfl))) (mvT hZ (hw _ (List.mem_of_getElem? (i := 9) rfl))) (notFace_of_selects (args := #[]) (mvT hZ (hw _ (List.mem_of_getElem? (i := 11) rfl)))) (mvT hZ (hw _ (List.mem_of_getElem? (i := 11) rfl))) (mvT hZ (hw _ (List.mem_of_getElem? (i := 10) rfl))) (by decide) (backOf (W := 0) (r16 l Z a0 hw [] h0 n0 s_NULL s_BITS s_OPAQUE s_CONSTRUCTOR s_END s_STRING s_BOOLEAN s_INTEGER s_OCTETS K) hZ (hw _ (List.mem_of_getElem? (i := 12) rfl)) (hw _ (List.mem_of_getElem? (i := 6) rfl)) (by decide) (by decide)) q2a q2c (g := (mkF m 26 #[.val (.int p0), .val (.int (5 : Int32)), .val (.ref s_OCTETS), .val (.int (1 : Int32))] [(.ref s_OCTETS)])) rfl (by rw [hml]; rfl) (Steps.refl _) (argsL := []) (rest := []) (lenOf pd1 rfl) rfl (by show 2 * 0 + _ ≤ _; exact Nat.le_of_eq rfl) (hb hby at_26) (fun _ _ => ⟨rfl, e1, (by decide : 0 + 0 ≤ _), (by decide : 0 + 0 ≤ _)⟩)
  dsimp only [Pt.U, Pt.locs, Pt.cells, Pt.slots] at X2 l2 y2 z2 st2 hQ2
  subst l2 y2 z2
  obtain ⟨rfl, N2q, e2⟩ := hQ2
  have N2 := Fr.app N1 N2q
  obtain ⟨fs, hr, hrun, hended, hW, hsame⟩ := X2.leave (v := some (.int (1 : Int32))) (fun h => by rw [Bd.returns] at h; cases h)
  refine ⟨_, _, pre0 _ ?_, hrun, hended, _, _, rfl, ?_, ⟨_, rfl⟩, hW, hsame.mono (by decide) (by decide)⟩
  · show Steps p.tables e below (s₁.setTop (mkF m 0 #[.val (.int p0), .unset, .unset, .unset] [])) _
    refine XS.iloadN X0.here hx rfl (hb hby at_0) rfl ?_
    show Steps p.tables e below (s₁.setTop (mkF m 1 #[.val (.int p0), .unset, .unset, .unset] [(.int p0)])) _
    refine X0.ldcInt hx hown (mvT hZ (hw _ (List.mem_of_getElem? (i := 0) rfl))) (g := (mkF m 1 #[.val (.int p0), .unset, .unset, .unset] [(.int p0)])) rfl (hb hby at_1) _ ?_
    show Steps p.tables e below (s₁.setTop (mkF m 3 #[.val (.int p0), .unset, .unset, .unset] [(.int (2147483647 : Int32)), (.int p0)])) _
    refine XS.iand X0.here hx rfl (hb hby at_3) rfl ?_
    show Steps p.tables e below (s₁.setTop (mkF m 4 #[.val (.int p0), .unset, .unset, .unset] [(.int (p0 &&& (2147483647 : Int32)))])) _
    refine XS.bipush X0.here hx rfl (hb hby at_4) ?_
    show Steps p.tables e below (s₁.setTop (mkF m 6 #[.val (.int p0), .unset, .unset, .unset] [(.int (9 : Int32)), (.int (p0 &&& (2147483647 : Int32)))])) _
    refine Jvm.RoadKit.iremM X0 hx rfl (hb hby at_6) rfl (by decide) ?_
    show Steps p.tables e below (s₁.setTop (mkF m 7 #[.val (.int p0), .unset, .unset, .unset] [(.int ((p0 &&& (2147483647 : Int32)) % (9 : Int32)))])) _
    rw [hp0]
    show Steps p.tables e below (s₁.setTop (mkF m 7 #[.val (.int p0), .unset, .unset, .unset] [(.int (5 : Int32))])) _
    refine XS.istoreN X0.here hx rfl (hb hby at_7) rfl (l' := #[.val (.int p0), .val (.int (5 : Int32)), .unset, .unset]) rfl ?_
    show Steps p.tables e below (s₁.setTop (mkF m 8 #[.val (.int p0), .val (.int (5 : Int32)), .unset, .unset] [])) _
    refine XS.iloadN X0.here hx rfl (hb hby at_8) rfl ?_
    show Steps p.tables e below (s₁.setTop (mkF m 9 #[.val (.int p0), .val (.int (5 : Int32)), .unset, .unset] [(.int (5 : Int32))])) _
    refine st1 _ ?_
    show Steps p.tables e below (T1.setTop (mkF m 12 #[.val (.int p0), .val (.int (5 : Int32)), .unset, .unset] [(.ref s_OCTETS)])) _
    refine XS.astoreN X1.here hx rfl (hb hby at_12) rfl rfl (l' := #[.val (.int p0), .val (.int (5 : Int32)), .val (.ref s_OCTETS), .unset]) rfl ?_
    show Steps p.tables e below (T1.setTop (mkF m 13 #[.val (.int p0), .val (.int (5 : Int32)), .val (.ref s_OCTETS), .unset] [])) _
    refine XS.iloadN X1.here hx rfl (hb hby at_13) rfl ?_
    show Steps p.tables e below (T1.setTop (mkF m 14 #[.val (.int p0), .val (.int (5 : Int32)), .val (.ref s_OCTETS), .unset] [(.int (5 : Int32))])) _
    refine XS.bipush X1.here hx rfl (hb hby at_14) ?_
    show Steps p.tables e below (T1.setTop (mkF m 16 #[.val (.int p0), .val (.int (5 : Int32)), .val (.ref s_OCTETS), .unset] [(.int (6 : Int32)), (.int (5 : Int32))])) _
    refine XS.icmpNo X1.here hx rfl (hb hby at_16) rfl (by decide +kernel) ?_
    show Steps p.tables e below (T1.setTop (mkF m 19 #[.val (.int p0), .val (.int (5 : Int32)), .val (.ref s_OCTETS), .unset] [])) _
    refine XS.iconst X1.here hx rfl (hb hby at_19) ?_
    show Steps p.tables e below (T1.setTop (mkF m 20 #[.val (.int p0), .val (.int (5 : Int32)), .val (.ref s_OCTETS), .unset] [(.int (1 : Int32))])) _
    refine XS.goto X1.here hx rfl (pc0 := 20) (pc' := 24) rfl (hb hby at_20) (by decide) (by decide) ?_
    show Steps p.tables e below (T1.setTop (mkF m 24 #[.val (.int p0), .val (.int (5 : Int32)), .val (.ref s_OCTETS), .unset] [(.int (1 : Int32))])) _
    refine XS.istoreN X1.here hx rfl (hb hby at_24) rfl (l' := #[.val (.int p0), .val (.int (5 : Int32)), .val (.ref s_OCTETS), .val (.int (1 : Int32))]) rfl ?_
    show Steps p.tables e below (T1.setTop (mkF m 25 #[.val (.int p0), .val (.int (5 : Int32)), .val (.ref s_OCTETS), .val (.int (1 : Int32))] [])) _
    refine XS.aloadN X1.here hx rfl (hb hby at_25) rfl rfl ?_
    show Steps p.tables e below (T1.setTop (mkF m 26 #[.val (.int p0), .val (.int (5 : Int32)), .val (.ref s_OCTETS), .val (.int (1 : Int32))] [(.ref s_OCTETS)])) _
    refine st2.trans ?_
    show Steps p.tables e below (T2.setTop (mkF m 29 #[.val (.int p0), .val (.int (5 : Int32)), .val (.ref s_OCTETS), .val (.int (1 : Int32))] [(.int (1 : Int32))])) _
    refine XS.iloadN X2.here hx rfl (hb hby at_29) rfl ?_
    show Steps p.tables e below (T2.setTop (mkF m 30 #[.val (.int p0), .val (.int (5 : Int32)), .val (.ref s_OCTETS), .val (.int (1 : Int32))] [(.int (1 : Int32)), (.int (1 : Int32))])) _
    refine XS.icmpNo X2.here hx rfl (hb hby at_30) rfl (by decide +kernel) ?_
    show Steps p.tables e below (T2.setTop (mkF m 33 #[.val (.int p0), .val (.int (5 : Int32)), .val (.ref s_OCTETS), .val (.int (1 : Int32))] [])) _
    refine XS.iconst X2.here hx rfl (hb hby at_33) ?_
    show Steps p.tables e below (T2.setTop (mkF m 34 #[.val (.int p0), .val (.int (5 : Int32)), .val (.ref s_OCTETS), .val (.int (1 : Int32))] [(.int (1 : Int32))])) _
    refine XS.goto X2.here hx rfl (pc0 := 34) (pc' := 38) rfl (hb hby at_34) (by decide) (by decide) ?_
    show Steps p.tables e below (T2.setTop (mkF m 38 #[.val (.int p0), .val (.int (5 : Int32)), .val (.ref s_OCTETS), .val (.int (1 : Int32))] [(.int (1 : Int32))])) _
    exact retN X2 hx (t := .boolean) Bd.returns (by simp) (hb hby at_38) hr
  · exact ⟨rfl, N2, e2⟩
set_option maxRecDepth 65536 in
set_option maxHeartbeats 40000000 in
theorem r18 (l : Launch) (Z : State) (a0 : Array Value) (hw : ∀ d ∈ tables_1, d.before a0 Z = true) (ws : List Jvm.Cond) (h0 : Heap) (n0 : Nat) (s_NULL : Addr) (s_BITS : Addr) (s_OPAQUE : Addr) (s_CONSTRUCTOR : Addr) (s_END : Addr) (s_STRING : Addr) (s_BOOLEAN : Addr) (s_INTEGER : Addr) (s_OCTETS : Addr) (K : Ctx Z h0 s_NULL s_BITS s_OPAQUE s_CONSTRUCTOR s_END s_STRING s_BOOLEAN s_INTEGER s_OCTETS) :
    MetFree l (⟨"com/example/plainwire/plainwire/rfc806/KindBarePinLaw", "pick", "(I)Lcom/example/plainwire/plainwire/rfc806/Element$Kind;"⟩ : MethodName) (head1 (Jvm.Cond.code (⟨"com/example/plainwire/plainwire/rfc806/KindBarePinLaw", "pick", "(I)Lcom/example/plainwire/plainwire/rfc806/Element$Kind;"⟩ : MethodName) method_2_code 1 (some (.object "com/example/plainwire/plainwire/rfc806/Element$Kind")) :: ws) ({ frames := 0, cells := 0, slots := 0, locals := 0 } : Room)) (fun a U => a = #[(.int (6 : Int32))] ∧ Z.Warmed39 U.vm ∧ U.heap = h0) (fun _ _ _ _ _ => True) (fun _ U o U' => ∃ v L, o = .returned v ∧ QV (.ref s_BITS) h0 n0 v U'.heap L ∧ FrameEnd U o U' L ({ frames := 0, cells := 0, slots := 0, locals := 0 } : Room).cells ({ frames := 0, cells := 0, slots := 0, locals := 0 } : Room).slots) := by
  obtain ⟨S_NULL, S_BITS, ne_BITS_NULL, S_OPAQUE, ne_NULL_OPAQUE, S_CONSTRUCTOR, ne_CONSTRUCTOR_NULL, E_NULL, S_END, ne_BITS_END, ne_END_OPAQUE, ne_CONSTRUCTOR_END, E_END, S_STRING, ne_BITS_STRING, ne_OPAQUE_STRING, ne_CONSTRUCTOR_STRING, E_STRING, S_BOOLEAN, ne_BITS_BOOLEAN, ne_BOOLEAN_OPAQUE, ne_BOOLEAN_CONSTRUCTOR, E_BOOLEAN, S_INTEGER, ne_BITS_INTEGER, ne_INTEGER_OPAQUE, ne_CONSTRUCTOR_INTEGER, E_INTEGER, S_OCTETS, ne_BITS_OCTETS, ne_OCTETS_OPAQUE, ne_CONSTRUCTOR_OCTETS, E_OCTETS, E_BITS, ne_BITS_OPAQUE, E_OPAQUE, ne_BITS_CONSTRUCTOR, ne_CONSTRUCTOR_OPAQUE, E_CONSTRUCTOR⟩ := id K
  refine MetFree.of_bodySF (plainFor_of_name pn0) hisR ?_
  intro p e s m args below meth c s₁ Bd hml0 hP hK
  obtain ⟨rfl, hZ, hh⟩ := hP
  have hx := Bd.exec
  have hby := Bd.bytes
  have hml : c.maxLocals = 1 := hml0
  have hown : s.vm.findClass "com/example/plainwire/plainwire/rfc806/KindBarePinLaw" = some m.cls := findClass_of_methodNamed Bd.named
  have X0 : Stand p l e ({ frames := 0, cells := 0, slots := 0, locals := 0 } : Room) s m #[(.int (6 : Int32))] below meth c s₁ [] 0 0 := Stand.of_body Bd
  have e0 : s₁.heap = h0 := by rw [← hh, Bd.state]; rfl
  have N0 := Fr.nil n0
  have pre0 : ∀ t, Steps p.tables e below (s₁.setTop (mkF m 0 #[.val (.int (6 : Int32))] [])) t → Steps p.tables e below (s₁.setTop (entryFrame m #[(.int (6 : Int32))] 1)) t := fun t k => castTop (by first | (simp [entryFrame, mkF, argsToLocals, Value.category]; done) | rfl) k
  obtain ⟨T1, X1, e1, st1⟩ := getS X0 hx hZ hown (host := "") (hw _ (List.mem_of_getElem? (i := 29) rfl)) Via.refl e0 S_BITS (g := (mkF m 59 #[.val (.int (6 : Int32))] [])) rfl (hb hby d0_59)
  obtain ⟨fs, hr, hrun, hended, hW, hsame⟩ := X1.leave (v := some (.ref s_BITS)) (fun h => by rw [Bd.returns] at h; cases h)
  refine ⟨_, _, pre0 _ ?_, hrun, hended, _, _, rfl, ?_, ⟨_, rfl⟩, hW, hsame.mono (by decide) (by decide)⟩
  · show Steps p.tables e below (s₁.setTop (mkF m 0 #[.val (.int (6 : Int32))] [])) _
    refine XS.iloadN X0.here hx rfl (hb hby d0_0) rfl ?_
    show Steps p.tables e below (s₁.setTop (mkF m 1 #[.val (.int (6 : Int32))] [(.int (6 : Int32))])) _
    refine XS.ifYes X0.here hx rfl (pc0 := 1) (pc' := 8) rfl (hb hby d0_1) rfl (by decide +kernel) (by decide) (by decide) ?_
    show Steps p.tables e below (s₁.setTop (mkF m 8 #[.val (.int (6 : Int32))] [])) _
    refine XS.iloadN X0.here hx rfl (hb hby d0_8) rfl ?_
    show Steps p.tables e below (s₁.setTop (mkF m 9 #[.val (.int (6 : Int32))] [(.int (6 : Int32))])) _
    refine XS.iconst X0.here hx rfl (hb hby d0_9) ?_
    show Steps p.tables e below (s₁.setTop (mkF m 10 #[.val (.int (6 : Int32))] [(.int (1 : Int32)), (.int (6 : Int32))])) _
    refine XS.icmpYes X0.here hx rfl (pc0 := 10) (pc' := 17) rfl (hb hby d0_10) rfl (by decide +kernel) (by decide) (by decide) ?_
    show Steps p.tables e below (s₁.setTop (mkF m 17 #[.val (.int (6 : Int32))] [])) _
    refine XS.iloadN X0.here hx rfl (hb hby d0_17) rfl ?_
    show Steps p.tables e below (s₁.setTop (mkF m 18 #[.val (.int (6 : Int32))] [(.int (6 : Int32))])) _
    refine XS.iconst X0.here hx rfl (hb hby d0_18) ?_
    show Steps p.tables e below (s₁.setTop (mkF m 19 #[.val (.int (6 : Int32))] [(.int (2 : Int32)), (.int (6 : Int32))])) _
    refine XS.icmpYes X0.here hx rfl (pc0 := 19) (pc' := 26) rfl (hb hby d0_19) rfl (by decide +kernel) (by decide) (by decide) ?_
    show Steps p.tables e below (s₁.setTop (mkF m 26 #[.val (.int (6 : Int32))] [])) _
    refine XS.iloadN X0.here hx rfl (hb hby d0_26) rfl ?_
    show Steps p.tables e below (s₁.setTop (mkF m 27 #[.val (.int (6 : Int32))] [(.int (6 : Int32))])) _
    refine XS.iconst X0.here hx rfl (hb hby d0_27) ?_
    show Steps p.tables e below (s₁.setTop (mkF m 28 #[.val (.int (6 : Int32))] [(.int (3 : Int32)), (.int (6 : Int32))])) _
    refine XS.icmpYes X0.here hx rfl (pc0 := 28) (pc' := 35) rfl (hb hby d0_28) rfl (by decide +kernel) (by decide) (by decide) ?_
    show Steps p.tables e below (s₁.setTop (mkF m 35 #[.val (.int (6 : Int32))] [])) _
    refine XS.iloadN X0.here hx rfl (hb hby d0_35) rfl ?_
    show Steps p.tables e below (s₁.setTop (mkF m 36 #[.val (.int (6 : Int32))] [(.int (6 : Int32))])) _
    refine XS.iconst X0.here hx rfl (hb hby d0_36) ?_
    show Steps p.tables e below (s₁.setTop (mkF m 37 #[.val (.int (6 : Int32))] [(.int (4 : Int32)), (.int (6 : Int32))])) _
    refine XS.icmpYes X0.here hx rfl (pc0 := 37) (pc' := 44) rfl (hb hby d0_37) rfl (by decide +kernel) (by decide) (by decide) ?_
    show Steps p.tables e below (s₁.setTop (mkF m 44 #[.val (.int (6 : Int32))] [])) _
    refine XS.iloadN X0.here hx rfl (hb hby d0_44) rfl ?_
    show Steps p.tables e below (s₁.setTop (mkF m 45 #[.val (.int (6 : Int32))] [(.int (6 : Int32))])) _
    refine XS.iconst X0.here hx rfl (hb hby d0_45) ?_
    show Steps p.tables e below (s₁.setTop (mkF m 46 #[.val (.int (6 : Int32))] [(.int (5 : Int32)), (.int (6 : Int32))])) _
    refine XS.icmpYes X0.here hx rfl (pc0 := 46) (pc' := 53) rfl (hb hby d0_46) rfl (by decide +kernel) (by decide) (by decide) ?_
    show Steps p.tables e below (s₁.setTop (mkF m 53 #[.val (.int (6 : Int32))] [])) _
    refine XS.iloadN X0.here hx rfl (hb hby d0_53) rfl ?_
    show Steps p.tables e below (s₁.setTop (mkF m 54 #[.val (.int (6 : Int32))] [(.int (6 : Int32))])) _
    refine XS.bipush X0.here hx rfl (hb hby d0_54) ?_
    show Steps p.tables e below (s₁.setTop (mkF m 56 #[.val (.int (6 : Int32))] [(.int (6 : Int32)), (.int (6 : Int32))])) _
    refine XS.icmpNo X0.here hx rfl (hb hby d0_56) rfl (by decide +kernel) ?_
    show Steps p.tables e below (s₁.setTop (mkF m 59 #[.val (.int (6 : Int32))] [])) _
    refine st1 _ ?_
    show Steps p.tables e below (T1.setTop (mkF m 62 #[.val (.int (6 : Int32))] [(.ref s_BITS)])) _
    exact retOut X1 hx (i := .areturn) Bd.returns rfl (Or.inr (Or.inr (Or.inr (Or.inr ⟨rfl, rfl, rfl⟩)))) (hb hby d0_62) hr
  · exact ⟨rfl, N0, e1⟩
set_option maxRecDepth 65536 in
set_option maxHeartbeats 40000000 in
theorem r19 (l : Launch) (Z : State) (a0 : Array Value) (hw : ∀ d ∈ tables_1, d.before a0 Z = true) (ws : List Jvm.Cond) (h0 : Heap) (n0 : Nat) (s_NULL : Addr) (s_BITS : Addr) (s_OPAQUE : Addr) (s_CONSTRUCTOR : Addr) (s_END : Addr) (s_STRING : Addr) (s_BOOLEAN : Addr) (s_INTEGER : Addr) (s_OCTETS : Addr) (K : Ctx Z h0 s_NULL s_BITS s_OPAQUE s_CONSTRUCTOR s_END s_STRING s_BOOLEAN s_INTEGER s_OCTETS) :
    MetFree l (⟨"com/example/plainwire/plainwire/rfc806/Element$Kind", "bare", "()Z"⟩ : MethodName) (head1 (Jvm.Cond.code (⟨"com/example/plainwire/plainwire/rfc806/Element$Kind", "bare", "()Z"⟩ : MethodName) prog_102_method_4_code 1 (some .boolean) :: ws) ({ frames := 0, cells := 0, slots := 0, locals := 0 } : Room)) (fun a U => a = #[(.ref s_BITS)] ∧ Z.Warmed39 U.vm ∧ U.heap = h0) (fun _ _ _ _ _ => True) (fun _ U o U' => ∃ v L, o = .returned v ∧ QV (.int (0 : Int32)) h0 n0 v U'.heap L ∧ FrameEnd U o U' L ({ frames := 0, cells := 0, slots := 0, locals := 0 } : Room).cells ({ frames := 0, cells := 0, slots := 0, locals := 0 } : Room).slots) := by
  obtain ⟨S_NULL, S_BITS, ne_BITS_NULL, S_OPAQUE, ne_NULL_OPAQUE, S_CONSTRUCTOR, ne_CONSTRUCTOR_NULL, E_NULL, S_END, ne_BITS_END, ne_END_OPAQUE, ne_CONSTRUCTOR_END, E_END, S_STRING, ne_BITS_STRING, ne_OPAQUE_STRING, ne_CONSTRUCTOR_STRING, E_STRING, S_BOOLEAN, ne_BITS_BOOLEAN, ne_BOOLEAN_OPAQUE, ne_BOOLEAN_CONSTRUCTOR, E_BOOLEAN, S_INTEGER, ne_BITS_INTEGER, ne_INTEGER_OPAQUE, ne_CONSTRUCTOR_INTEGER, E_INTEGER, S_OCTETS, ne_BITS_OCTETS, ne_OCTETS_OPAQUE, ne_CONSTRUCTOR_OCTETS, E_OCTETS, E_BITS, ne_BITS_OPAQUE, E_OPAQUE, ne_BITS_CONSTRUCTOR, ne_CONSTRUCTOR_OPAQUE, E_CONSTRUCTOR⟩ := id K
  refine MetFree.of_bodySF (plainFor_of_name pn1) hisR ?_
  intro p e s m args below meth c s₁ Bd hml0 hP hK
  obtain ⟨rfl, hZ, hh⟩ := hP
  have hx := Bd.exec
  have hby := Bd.bytes
  have hml : c.maxLocals = 1 := hml0
  have hown : s.vm.findClass "com/example/plainwire/plainwire/rfc806/Element$Kind" = some m.cls := findClass_of_methodNamed Bd.named
  have X0 : Stand p l e ({ frames := 0, cells := 0, slots := 0, locals := 0 } : Room) s m #[(.ref s_BITS)] below meth c s₁ [] 0 0 := Stand.of_body Bd
  have e0 : s₁.heap = h0 := by rw [← hh, Bd.state]; rfl
  have N0 := Fr.nil n0
  have pre0 : ∀ t, Steps p.tables e below (s₁.setTop (mkF m 0 #[.val (.ref s_BITS)] [])) t → Steps p.tables e below (s₁.setTop (entryFrame m #[(.ref s_BITS)] 1)) t := fun t k => castTop (by first | (simp [entryFrame, mkF, argsToLocals, Value.category]; done) | rfl) k
  obtain ⟨T1, X1, e1, st1⟩ := getS X0 hx hZ hown (host := "") (hw _ (List.mem_of_getElem? (i := 13) rfl)) Via.refl e0 S_BITS (g := (mkF m 1 #[.val (.ref s_BITS)] [(.ref s_BITS)])) rfl (hb hby d1_1)
  obtain ⟨fs, hr, hrun, hended, hW, hsame⟩ := X1.leave (v := some (.int (0 : Int32))) (fun h => by rw [Bd.returns] at h; cases h)
  refine ⟨_, _, pre0 _ ?_, hrun, hended, _, _, rfl, ?_, ⟨_, rfl⟩, hW, hsame.mono (by decide) (by decide)⟩
  · show Steps p.tables e below (s₁.setTop (mkF m 0 #[.val (.ref s_BITS)] [])) _
    refine XS.aloadN X0.here hx rfl (hb hby d1_0) rfl rfl ?_
    show Steps p.tables e below (s₁.setTop (mkF m 1 #[.val (.ref s_BITS)] [(.ref s_BITS)])) _
    refine st1 _ ?_
    show Steps p.tables e below (T1.setTop (mkF m 4 #[.val (.ref s_BITS)] [(.ref s_BITS), (.ref s_BITS)])) _
    refine Jvm.RoadKit.acmp (g := (mkF m 4 #[.val (.ref s_BITS)] [(.ref s_BITS), (.ref s_BITS)])) X1 hx rfl rfl rfl (pc0 := 4) (pc' := 25) (same := true) rfl (hb hby d1_4) rfl (decide_eq_true rfl) (by decide) (by decide) ?_
    show Steps p.tables e below (T1.setTop (mkF m 25 #[.val (.ref s_BITS)] [])) _
    refine XS.iconst X1.here hx rfl (hb hby d1_25) ?_
    show Steps p.tables e below (T1.setTop (mkF m 26 #[.val (.ref s_BITS)] [(.int (0 : Int32))])) _
    exact retN X1 hx (t := .boolean) Bd.returns (by simp) (hb hby d1_26) hr
  · exact ⟨rfl, N0, e1⟩
set_option maxRecDepth 65536 in
set_option maxHeartbeats 40000000 in
theorem law_k6 (l : Launch) (Z : State) (a0 : Array Value) (hw : ∀ d ∈ tables_1, d.before a0 Z = true) (ws : List Jvm.Cond) (h0 : Heap) (n0 : Nat) (s_NULL : Addr) (s_BITS : Addr) (s_OPAQUE : Addr) (s_CONSTRUCTOR : Addr) (s_END : Addr) (s_STRING : Addr) (s_BOOLEAN : Addr) (s_INTEGER : Addr) (s_OCTETS : Addr) (K : Ctx Z h0 s_NULL s_BITS s_OPAQUE s_CONSTRUCTOR s_END s_STRING s_BOOLEAN s_INTEGER s_OCTETS) (p0 : Int32) (hp0 : ((p0 &&& (2147483647 : Int32)) % (9 : Int32)) = (6 : Int32)) :
    MetFree l x (head1 (Jvm.Cond.code x code maxLocals ret :: ws) room_1) (fun a U => a = #[(.int p0)] ∧ Z.Warmed39 U.vm ∧ U.heap = h0) (fun _ _ _ _ _ => True) (fun _ U o U' => ∃ v L, o = .returned v ∧ QV (.int (1 : Int32)) h0 n0 v U'.heap L ∧ FrameEnd U o U' L room_1.cells room_1.slots) := by
  obtain ⟨S_NULL, S_BITS, ne_BITS_NULL, S_OPAQUE, ne_NULL_OPAQUE, S_CONSTRUCTOR, ne_CONSTRUCTOR_NULL, E_NULL, S_END, ne_BITS_END, ne_END_OPAQUE, ne_CONSTRUCTOR_END, E_END, S_STRING, ne_BITS_STRING, ne_OPAQUE_STRING, ne_CONSTRUCTOR_STRING, E_STRING, S_BOOLEAN, ne_BITS_BOOLEAN, ne_BOOLEAN_OPAQUE, ne_BOOLEAN_CONSTRUCTOR, E_BOOLEAN, S_INTEGER, ne_BITS_INTEGER, ne_INTEGER_OPAQUE, ne_CONSTRUCTOR_INTEGER, E_INTEGER, S_OCTETS, ne_BITS_OCTETS, ne_OCTETS_OPAQUE, ne_CONSTRUCTOR_OCTETS, E_OCTETS, E_BITS, ne_BITS_OPAQUE, E_OPAQUE, ne_BITS_CONSTRUCTOR, ne_CONSTRUCTOR_OPAQUE, E_CONSTRUCTOR⟩ := id K
  refine MetFree.of_bodySF (plainFor_of_name pn2) hisR ?_
  intro p e s m args below meth c s₁ Bd hml0 hP hK
  obtain ⟨rfl, hZ, hh⟩ := hP
  have hx := Bd.exec
  have hby := Bd.bytes
  have hml : c.maxLocals = 4 := hml0
  have hown : s.vm.findClass "com/example/plainwire/plainwire/rfc806/KindBarePinLaw" = some m.cls := findClass_of_methodNamed Bd.named
  have X0 : Stand p l e room_1 s m #[(.int p0)] below meth c s₁ [] 0 0 := Stand.of_body Bd
  have e0 : s₁.heap = h0 := by rw [← hh, Bd.state]; rfl
  have N0 := Fr.nil n0
  have pre0 : ∀ t, Steps p.tables e below (s₁.setTop (mkF m 0 #[.val (.int p0), .unset, .unset, .unset] [])) t → Steps p.tables e below (s₁.setTop (entryFrame m #[(.int p0)] maxLocals)) t := fun t k => castTop (by first | (simp [entryFrame, mkF, argsToLocals, Value.category, maxLocals]; done) | rfl) k
  obtain ⟨_, _, ⟨T1, L1, k1, n1⟩, -, X1, ⟨Lc1, hQ1, l1, y1, z1⟩, st1⟩ := Jvm.LawKit.callS X0 hx (y := (⟨"com/example/plainwire/plainwire/rfc806/KindBarePinLaw", "pick", "(I)Lcom/example/plainwire/plainwire/rfc806/Element$Kind;"⟩ : MethodName)) hown (mvT hZ (hw _ (List.mem_of_getElem? (i := 1) rfl))) (mvT hZ (hw _ (List.mem_of_getElem? (i := 2) rfl))) (mvT hZ (hw _ (List.mem_of_getElem? (i := 3) rfl))) (mvT hZ (hw _ (List.mem_of_getElem? (i := 4) rfl))) (by decide) (backOf (W := 0) (r18 l Z a0 hw [] h0 n0 s_NULL s_BITS s_OPAQUE s_CONSTRUCTOR s_END s_STRING s_BOOLEAN s_INTEGER s_OCTETS K) hZ (hw _ (List.mem_of_getElem? (i := 4) rfl)) (hw _ (List.mem_of_getElem? (i := 3) rfl)) (by decide) (by decide)) (g := (mkF m 9 #[.val (.int p0), .val (.int (6 : Int32)), .unset, .unset] [(.int (6 : Int32))])) rfl (by rw [hml]; rfl) (argsL := [(.int (6 : Int32))]) (rest := []) (lenOf pd0 rfl) rfl (by show 2 * 0 + _ ≤ _; exact Nat.le_of_eq rfl) (hb hby at_9) (fun _ _ => ⟨rfl, e0, (by decide : 0 + 0 ≤ _), (by decide : 0 + 0 ≤ _)⟩)
  dsimp only [Pt.U, Pt.locs, Pt.cells, Pt.slots] at X1 l1 y1 z1 st1 hQ1
  subst l1 y1 z1
  obtain ⟨rfl, N1q, e1⟩ := hQ1
  have N1 := Fr.app N0 N1q
  obtain ⟨cq2, kq2, q2a, q2b, q2c⟩ := isOf hZ e1 E_BITS
  obtain ⟨_, _, ⟨T2, L2, k2, n2⟩, -, X2, ⟨Lc2, hQ2, l2, y2, z2⟩, st2⟩ := X1.virtualBack hx (y := (⟨"com/example/plainwire/plainwire/rfc806/Element$Kind", "bare", "()Z"⟩ : MethodName)) (z := (⟨"com/example/plainwire/plainwire/rfc806/Element$Kind", "bare", "()Z"⟩ : MethodName)) hown (mvT hZ (hw _ (List.mem_of_getElem? (i := 8) rfl))) (mvT hZ (hw _ (List.mem_of_getElem? (i := 9) rfl))) (notFace_of_selects (args := #[]) (mvT hZ (hw _ (List.mem_of_getElem? (i := 11) rfl)))) (mvT hZ (hw _ (List.mem_of_getElem? (i := 11) rfl))) (mvT hZ (hw _ (List.mem_of_getElem? (i := 10) rfl))) (by decide) (backOf (W := 0) (r19 l Z a0 hw [] h0 n0 s_NULL s_BITS s_OPAQUE s_CONSTRUCTOR s_END s_STRING s_BOOLEAN s_INTEGER s_OCTETS K) hZ (hw _ (List.mem_of_getElem? (i := 12) rfl)) (hw _ (List.mem_of_getElem? (i := 6) rfl)) (by decide) (by decide)) q2a q2c (g := (mkF m 26 #[.val (.int p0), .val (.int (6 : Int32)), .val (.ref s_BITS), .val (.int (0 : Int32))] [(.ref s_BITS)])) rfl (by rw [hml]; rfl) (Steps.refl _) (argsL := []) (rest := []) (lenOf pd1 rfl) rfl (by show 2 * 0 + _ ≤ _; exact Nat.le_of_eq rfl) (hb hby at_26) (fun _ _ => ⟨rfl, e1, (by decide : 0 + 0 ≤ _), (by decide : 0 + 0 ≤ _)⟩)
  dsimp only [Pt.U, Pt.locs, Pt.cells, Pt.slots] at X2 l2 y2 z2 st2 hQ2
  subst l2 y2 z2
  obtain ⟨rfl, N2q, e2⟩ := hQ2
  have N2 := Fr.app N1 N2q
  obtain ⟨fs, hr, hrun, hended, hW, hsame⟩ := X2.leave (v := some (.int (1 : Int32))) (fun h => by rw [Bd.returns] at h; cases h)
  refine ⟨_, _, pre0 _ ?_, hrun, hended, _, _, rfl, ?_, ⟨_, rfl⟩, hW, hsame.mono (by decide) (by decide)⟩
  · show Steps p.tables e below (s₁.setTop (mkF m 0 #[.val (.int p0), .unset, .unset, .unset] [])) _
    refine XS.iloadN X0.here hx rfl (hb hby at_0) rfl ?_
    show Steps p.tables e below (s₁.setTop (mkF m 1 #[.val (.int p0), .unset, .unset, .unset] [(.int p0)])) _
    refine X0.ldcInt hx hown (mvT hZ (hw _ (List.mem_of_getElem? (i := 0) rfl))) (g := (mkF m 1 #[.val (.int p0), .unset, .unset, .unset] [(.int p0)])) rfl (hb hby at_1) _ ?_
    show Steps p.tables e below (s₁.setTop (mkF m 3 #[.val (.int p0), .unset, .unset, .unset] [(.int (2147483647 : Int32)), (.int p0)])) _
    refine XS.iand X0.here hx rfl (hb hby at_3) rfl ?_
    show Steps p.tables e below (s₁.setTop (mkF m 4 #[.val (.int p0), .unset, .unset, .unset] [(.int (p0 &&& (2147483647 : Int32)))])) _
    refine XS.bipush X0.here hx rfl (hb hby at_4) ?_
    show Steps p.tables e below (s₁.setTop (mkF m 6 #[.val (.int p0), .unset, .unset, .unset] [(.int (9 : Int32)), (.int (p0 &&& (2147483647 : Int32)))])) _
    refine Jvm.RoadKit.iremM X0 hx rfl (hb hby at_6) rfl (by decide) ?_
    show Steps p.tables e below (s₁.setTop (mkF m 7 #[.val (.int p0), .unset, .unset, .unset] [(.int ((p0 &&& (2147483647 : Int32)) % (9 : Int32)))])) _
    rw [hp0]
    show Steps p.tables e below (s₁.setTop (mkF m 7 #[.val (.int p0), .unset, .unset, .unset] [(.int (6 : Int32))])) _
    refine XS.istoreN X0.here hx rfl (hb hby at_7) rfl (l' := #[.val (.int p0), .val (.int (6 : Int32)), .unset, .unset]) rfl ?_
    show Steps p.tables e below (s₁.setTop (mkF m 8 #[.val (.int p0), .val (.int (6 : Int32)), .unset, .unset] [])) _
    refine XS.iloadN X0.here hx rfl (hb hby at_8) rfl ?_
    show Steps p.tables e below (s₁.setTop (mkF m 9 #[.val (.int p0), .val (.int (6 : Int32)), .unset, .unset] [(.int (6 : Int32))])) _
    refine st1 _ ?_
    show Steps p.tables e below (T1.setTop (mkF m 12 #[.val (.int p0), .val (.int (6 : Int32)), .unset, .unset] [(.ref s_BITS)])) _
    refine XS.astoreN X1.here hx rfl (hb hby at_12) rfl rfl (l' := #[.val (.int p0), .val (.int (6 : Int32)), .val (.ref s_BITS), .unset]) rfl ?_
    show Steps p.tables e below (T1.setTop (mkF m 13 #[.val (.int p0), .val (.int (6 : Int32)), .val (.ref s_BITS), .unset] [])) _
    refine XS.iloadN X1.here hx rfl (hb hby at_13) rfl ?_
    show Steps p.tables e below (T1.setTop (mkF m 14 #[.val (.int p0), .val (.int (6 : Int32)), .val (.ref s_BITS), .unset] [(.int (6 : Int32))])) _
    refine XS.bipush X1.here hx rfl (hb hby at_14) ?_
    show Steps p.tables e below (T1.setTop (mkF m 16 #[.val (.int p0), .val (.int (6 : Int32)), .val (.ref s_BITS), .unset] [(.int (6 : Int32)), (.int (6 : Int32))])) _
    refine XS.icmpYes X1.here hx rfl (pc0 := 16) (pc' := 23) rfl (hb hby at_16) rfl (by decide +kernel) (by decide) (by decide) ?_
    show Steps p.tables e below (T1.setTop (mkF m 23 #[.val (.int p0), .val (.int (6 : Int32)), .val (.ref s_BITS), .unset] [])) _
    refine XS.iconst X1.here hx rfl (hb hby at_23) ?_
    show Steps p.tables e below (T1.setTop (mkF m 24 #[.val (.int p0), .val (.int (6 : Int32)), .val (.ref s_BITS), .unset] [(.int (0 : Int32))])) _
    refine XS.istoreN X1.here hx rfl (hb hby at_24) rfl (l' := #[.val (.int p0), .val (.int (6 : Int32)), .val (.ref s_BITS), .val (.int (0 : Int32))]) rfl ?_
    show Steps p.tables e below (T1.setTop (mkF m 25 #[.val (.int p0), .val (.int (6 : Int32)), .val (.ref s_BITS), .val (.int (0 : Int32))] [])) _
    refine XS.aloadN X1.here hx rfl (hb hby at_25) rfl rfl ?_
    show Steps p.tables e below (T1.setTop (mkF m 26 #[.val (.int p0), .val (.int (6 : Int32)), .val (.ref s_BITS), .val (.int (0 : Int32))] [(.ref s_BITS)])) _
    refine st2.trans ?_
    show Steps p.tables e below (T2.setTop (mkF m 29 #[.val (.int p0), .val (.int (6 : Int32)), .val (.ref s_BITS), .val (.int (0 : Int32))] [(.int (0 : Int32))])) _
    refine XS.iloadN X2.here hx rfl (hb hby at_29) rfl ?_
    show Steps p.tables e below (T2.setTop (mkF m 30 #[.val (.int p0), .val (.int (6 : Int32)), .val (.ref s_BITS), .val (.int (0 : Int32))] [(.int (0 : Int32)), (.int (0 : Int32))])) _
    refine XS.icmpNo X2.here hx rfl (hb hby at_30) rfl (by decide +kernel) ?_
    show Steps p.tables e below (T2.setTop (mkF m 33 #[.val (.int p0), .val (.int (6 : Int32)), .val (.ref s_BITS), .val (.int (0 : Int32))] [])) _
    refine XS.iconst X2.here hx rfl (hb hby at_33) ?_
    show Steps p.tables e below (T2.setTop (mkF m 34 #[.val (.int p0), .val (.int (6 : Int32)), .val (.ref s_BITS), .val (.int (0 : Int32))] [(.int (1 : Int32))])) _
    refine XS.goto X2.here hx rfl (pc0 := 34) (pc' := 38) rfl (hb hby at_34) (by decide) (by decide) ?_
    show Steps p.tables e below (T2.setTop (mkF m 38 #[.val (.int p0), .val (.int (6 : Int32)), .val (.ref s_BITS), .val (.int (0 : Int32))] [(.int (1 : Int32))])) _
    exact retN X2 hx (t := .boolean) Bd.returns (by simp) (hb hby at_38) hr
  · exact ⟨rfl, N2, e2⟩
set_option maxRecDepth 65536 in
set_option maxHeartbeats 40000000 in
theorem r21 (l : Launch) (Z : State) (a0 : Array Value) (hw : ∀ d ∈ tables_1, d.before a0 Z = true) (ws : List Jvm.Cond) (h0 : Heap) (n0 : Nat) (s_NULL : Addr) (s_BITS : Addr) (s_OPAQUE : Addr) (s_CONSTRUCTOR : Addr) (s_END : Addr) (s_STRING : Addr) (s_BOOLEAN : Addr) (s_INTEGER : Addr) (s_OCTETS : Addr) (K : Ctx Z h0 s_NULL s_BITS s_OPAQUE s_CONSTRUCTOR s_END s_STRING s_BOOLEAN s_INTEGER s_OCTETS) :
    MetFree l (⟨"com/example/plainwire/plainwire/rfc806/KindBarePinLaw", "pick", "(I)Lcom/example/plainwire/plainwire/rfc806/Element$Kind;"⟩ : MethodName) (head1 (Jvm.Cond.code (⟨"com/example/plainwire/plainwire/rfc806/KindBarePinLaw", "pick", "(I)Lcom/example/plainwire/plainwire/rfc806/Element$Kind;"⟩ : MethodName) method_2_code 1 (some (.object "com/example/plainwire/plainwire/rfc806/Element$Kind")) :: ws) ({ frames := 0, cells := 0, slots := 0, locals := 0 } : Room)) (fun a U => a = #[(.int (7 : Int32))] ∧ Z.Warmed39 U.vm ∧ U.heap = h0) (fun _ _ _ _ _ => True) (fun _ U o U' => ∃ v L, o = .returned v ∧ QV (.ref s_OPAQUE) h0 n0 v U'.heap L ∧ FrameEnd U o U' L ({ frames := 0, cells := 0, slots := 0, locals := 0 } : Room).cells ({ frames := 0, cells := 0, slots := 0, locals := 0 } : Room).slots) := by
  obtain ⟨S_NULL, S_BITS, ne_BITS_NULL, S_OPAQUE, ne_NULL_OPAQUE, S_CONSTRUCTOR, ne_CONSTRUCTOR_NULL, E_NULL, S_END, ne_BITS_END, ne_END_OPAQUE, ne_CONSTRUCTOR_END, E_END, S_STRING, ne_BITS_STRING, ne_OPAQUE_STRING, ne_CONSTRUCTOR_STRING, E_STRING, S_BOOLEAN, ne_BITS_BOOLEAN, ne_BOOLEAN_OPAQUE, ne_BOOLEAN_CONSTRUCTOR, E_BOOLEAN, S_INTEGER, ne_BITS_INTEGER, ne_INTEGER_OPAQUE, ne_CONSTRUCTOR_INTEGER, E_INTEGER, S_OCTETS, ne_BITS_OCTETS, ne_OCTETS_OPAQUE, ne_CONSTRUCTOR_OCTETS, E_OCTETS, E_BITS, ne_BITS_OPAQUE, E_OPAQUE, ne_BITS_CONSTRUCTOR, ne_CONSTRUCTOR_OPAQUE, E_CONSTRUCTOR⟩ := id K
  refine MetFree.of_bodySF (plainFor_of_name pn0) hisR ?_
  intro p e s m args below meth c s₁ Bd hml0 hP hK
  obtain ⟨rfl, hZ, hh⟩ := hP
  have hx := Bd.exec
  have hby := Bd.bytes
  have hml : c.maxLocals = 1 := hml0
  have hown : s.vm.findClass "com/example/plainwire/plainwire/rfc806/KindBarePinLaw" = some m.cls := findClass_of_methodNamed Bd.named
  have X0 : Stand p l e ({ frames := 0, cells := 0, slots := 0, locals := 0 } : Room) s m #[(.int (7 : Int32))] below meth c s₁ [] 0 0 := Stand.of_body Bd
  have e0 : s₁.heap = h0 := by rw [← hh, Bd.state]; rfl
  have N0 := Fr.nil n0
  have pre0 : ∀ t, Steps p.tables e below (s₁.setTop (mkF m 0 #[.val (.int (7 : Int32))] [])) t → Steps p.tables e below (s₁.setTop (entryFrame m #[(.int (7 : Int32))] 1)) t := fun t k => castTop (by first | (simp [entryFrame, mkF, argsToLocals, Value.category]; done) | rfl) k
  obtain ⟨T1, X1, e1, st1⟩ := getS X0 hx hZ hown (host := "") (hw _ (List.mem_of_getElem? (i := 25) rfl)) Via.refl e0 S_OPAQUE (g := (mkF m 69 #[.val (.int (7 : Int32))] [])) rfl (hb hby d0_69)
  obtain ⟨fs, hr, hrun, hended, hW, hsame⟩ := X1.leave (v := some (.ref s_OPAQUE)) (fun h => by rw [Bd.returns] at h; cases h)
  refine ⟨_, _, pre0 _ ?_, hrun, hended, _, _, rfl, ?_, ⟨_, rfl⟩, hW, hsame.mono (by decide) (by decide)⟩
  · show Steps p.tables e below (s₁.setTop (mkF m 0 #[.val (.int (7 : Int32))] [])) _
    refine XS.iloadN X0.here hx rfl (hb hby d0_0) rfl ?_
    show Steps p.tables e below (s₁.setTop (mkF m 1 #[.val (.int (7 : Int32))] [(.int (7 : Int32))])) _
    refine XS.ifYes X0.here hx rfl (pc0 := 1) (pc' := 8) rfl (hb hby d0_1) rfl (by decide +kernel) (by decide) (by decide) ?_
    show Steps p.tables e below (s₁.setTop (mkF m 8 #[.val (.int (7 : Int32))] [])) _
    refine XS.iloadN X0.here hx rfl (hb hby d0_8) rfl ?_
    show Steps p.tables e below (s₁.setTop (mkF m 9 #[.val (.int (7 : Int32))] [(.int (7 : Int32))])) _
    refine XS.iconst X0.here hx rfl (hb hby d0_9) ?_
    show Steps p.tables e below (s₁.setTop (mkF m 10 #[.val (.int (7 : Int32))] [(.int (1 : Int32)), (.int (7 : Int32))])) _
    refine XS.icmpYes X0.here hx rfl (pc0 := 10) (pc' := 17) rfl (hb hby d0_10) rfl (by decide +kernel) (by decide) (by decide) ?_
    show Steps p.tables e below (s₁.setTop (mkF m 17 #[.val (.int (7 : Int32))] [])) _
    refine XS.iloadN X0.here hx rfl (hb hby d0_17) rfl ?_
    show Steps p.tables e below (s₁.setTop (mkF m 18 #[.val (.int (7 : Int32))] [(.int (7 : Int32))])) _
    refine XS.iconst X0.here hx rfl (hb hby d0_18) ?_
    show Steps p.tables e below (s₁.setTop (mkF m 19 #[.val (.int (7 : Int32))] [(.int (2 : Int32)), (.int (7 : Int32))])) _
    refine XS.icmpYes X0.here hx rfl (pc0 := 19) (pc' := 26) rfl (hb hby d0_19) rfl (by decide +kernel) (by decide) (by decide) ?_
    show Steps p.tables e below (s₁.setTop (mkF m 26 #[.val (.int (7 : Int32))] [])) _
    refine XS.iloadN X0.here hx rfl (hb hby d0_26) rfl ?_
    show Steps p.tables e below (s₁.setTop (mkF m 27 #[.val (.int (7 : Int32))] [(.int (7 : Int32))])) _
    refine XS.iconst X0.here hx rfl (hb hby d0_27) ?_
    show Steps p.tables e below (s₁.setTop (mkF m 28 #[.val (.int (7 : Int32))] [(.int (3 : Int32)), (.int (7 : Int32))])) _
    refine XS.icmpYes X0.here hx rfl (pc0 := 28) (pc' := 35) rfl (hb hby d0_28) rfl (by decide +kernel) (by decide) (by decide) ?_
    show Steps p.tables e below (s₁.setTop (mkF m 35 #[.val (.int (7 : Int32))] [])) _
    refine XS.iloadN X0.here hx rfl (hb hby d0_35) rfl ?_
    show Steps p.tables e below (s₁.setTop (mkF m 36 #[.val (.int (7 : Int32))] [(.int (7 : Int32))])) _
    refine XS.iconst X0.here hx rfl (hb hby d0_36) ?_
    show Steps p.tables e below (s₁.setTop (mkF m 37 #[.val (.int (7 : Int32))] [(.int (4 : Int32)), (.int (7 : Int32))])) _
    refine XS.icmpYes X0.here hx rfl (pc0 := 37) (pc' := 44) rfl (hb hby d0_37) rfl (by decide +kernel) (by decide) (by decide) ?_
    show Steps p.tables e below (s₁.setTop (mkF m 44 #[.val (.int (7 : Int32))] [])) _
    refine XS.iloadN X0.here hx rfl (hb hby d0_44) rfl ?_
    show Steps p.tables e below (s₁.setTop (mkF m 45 #[.val (.int (7 : Int32))] [(.int (7 : Int32))])) _
    refine XS.iconst X0.here hx rfl (hb hby d0_45) ?_
    show Steps p.tables e below (s₁.setTop (mkF m 46 #[.val (.int (7 : Int32))] [(.int (5 : Int32)), (.int (7 : Int32))])) _
    refine XS.icmpYes X0.here hx rfl (pc0 := 46) (pc' := 53) rfl (hb hby d0_46) rfl (by decide +kernel) (by decide) (by decide) ?_
    show Steps p.tables e below (s₁.setTop (mkF m 53 #[.val (.int (7 : Int32))] [])) _
    refine XS.iloadN X0.here hx rfl (hb hby d0_53) rfl ?_
    show Steps p.tables e below (s₁.setTop (mkF m 54 #[.val (.int (7 : Int32))] [(.int (7 : Int32))])) _
    refine XS.bipush X0.here hx rfl (hb hby d0_54) ?_
    show Steps p.tables e below (s₁.setTop (mkF m 56 #[.val (.int (7 : Int32))] [(.int (6 : Int32)), (.int (7 : Int32))])) _
    refine XS.icmpYes X0.here hx rfl (pc0 := 56) (pc' := 63) rfl (hb hby d0_56) rfl (by decide +kernel) (by decide) (by decide) ?_
    show Steps p.tables e below (s₁.setTop (mkF m 63 #[.val (.int (7 : Int32))] [])) _
    refine XS.iloadN X0.here hx rfl (hb hby d0_63) rfl ?_
    show Steps p.tables e below (s₁.setTop (mkF m 64 #[.val (.int (7 : Int32))] [(.int (7 : Int32))])) _
    refine XS.bipush X0.here hx rfl (hb hby d0_64) ?_
    show Steps p.tables e below (s₁.setTop (mkF m 66 #[.val (.int (7 : Int32))] [(.int (7 : Int32)), (.int (7 : Int32))])) _
    refine XS.icmpNo X0.here hx rfl (hb hby d0_66) rfl (by decide +kernel) ?_
    show Steps p.tables e below (s₁.setTop (mkF m 69 #[.val (.int (7 : Int32))] [])) _
    refine st1 _ ?_
    show Steps p.tables e below (T1.setTop (mkF m 72 #[.val (.int (7 : Int32))] [(.ref s_OPAQUE)])) _
    exact retOut X1 hx (i := .areturn) Bd.returns rfl (Or.inr (Or.inr (Or.inr (Or.inr ⟨rfl, rfl, rfl⟩)))) (hb hby d0_72) hr
  · exact ⟨rfl, N0, e1⟩
set_option maxRecDepth 65536 in
set_option maxHeartbeats 40000000 in
theorem r22 (l : Launch) (Z : State) (a0 : Array Value) (hw : ∀ d ∈ tables_1, d.before a0 Z = true) (ws : List Jvm.Cond) (h0 : Heap) (n0 : Nat) (s_NULL : Addr) (s_BITS : Addr) (s_OPAQUE : Addr) (s_CONSTRUCTOR : Addr) (s_END : Addr) (s_STRING : Addr) (s_BOOLEAN : Addr) (s_INTEGER : Addr) (s_OCTETS : Addr) (K : Ctx Z h0 s_NULL s_BITS s_OPAQUE s_CONSTRUCTOR s_END s_STRING s_BOOLEAN s_INTEGER s_OCTETS) :
    MetFree l (⟨"com/example/plainwire/plainwire/rfc806/Element$Kind", "bare", "()Z"⟩ : MethodName) (head1 (Jvm.Cond.code (⟨"com/example/plainwire/plainwire/rfc806/Element$Kind", "bare", "()Z"⟩ : MethodName) prog_102_method_4_code 1 (some .boolean) :: ws) ({ frames := 0, cells := 0, slots := 0, locals := 0 } : Room)) (fun a U => a = #[(.ref s_OPAQUE)] ∧ Z.Warmed39 U.vm ∧ U.heap = h0) (fun _ _ _ _ _ => True) (fun _ U o U' => ∃ v L, o = .returned v ∧ QV (.int (0 : Int32)) h0 n0 v U'.heap L ∧ FrameEnd U o U' L ({ frames := 0, cells := 0, slots := 0, locals := 0 } : Room).cells ({ frames := 0, cells := 0, slots := 0, locals := 0 } : Room).slots) := by
  obtain ⟨S_NULL, S_BITS, ne_BITS_NULL, S_OPAQUE, ne_NULL_OPAQUE, S_CONSTRUCTOR, ne_CONSTRUCTOR_NULL, E_NULL, S_END, ne_BITS_END, ne_END_OPAQUE, ne_CONSTRUCTOR_END, E_END, S_STRING, ne_BITS_STRING, ne_OPAQUE_STRING, ne_CONSTRUCTOR_STRING, E_STRING, S_BOOLEAN, ne_BITS_BOOLEAN, ne_BOOLEAN_OPAQUE, ne_BOOLEAN_CONSTRUCTOR, E_BOOLEAN, S_INTEGER, ne_BITS_INTEGER, ne_INTEGER_OPAQUE, ne_CONSTRUCTOR_INTEGER, E_INTEGER, S_OCTETS, ne_BITS_OCTETS, ne_OCTETS_OPAQUE, ne_CONSTRUCTOR_OCTETS, E_OCTETS, E_BITS, ne_BITS_OPAQUE, E_OPAQUE, ne_BITS_CONSTRUCTOR, ne_CONSTRUCTOR_OPAQUE, E_CONSTRUCTOR⟩ := id K
  refine MetFree.of_bodySF (plainFor_of_name pn1) hisR ?_
  intro p e s m args below meth c s₁ Bd hml0 hP hK
  obtain ⟨rfl, hZ, hh⟩ := hP
  have hx := Bd.exec
  have hby := Bd.bytes
  have hml : c.maxLocals = 1 := hml0
  have hown : s.vm.findClass "com/example/plainwire/plainwire/rfc806/Element$Kind" = some m.cls := findClass_of_methodNamed Bd.named
  have X0 : Stand p l e ({ frames := 0, cells := 0, slots := 0, locals := 0 } : Room) s m #[(.ref s_OPAQUE)] below meth c s₁ [] 0 0 := Stand.of_body Bd
  have e0 : s₁.heap = h0 := by rw [← hh, Bd.state]; rfl
  have N0 := Fr.nil n0
  have pre0 : ∀ t, Steps p.tables e below (s₁.setTop (mkF m 0 #[.val (.ref s_OPAQUE)] [])) t → Steps p.tables e below (s₁.setTop (entryFrame m #[(.ref s_OPAQUE)] 1)) t := fun t k => castTop (by first | (simp [entryFrame, mkF, argsToLocals, Value.category]; done) | rfl) k
  obtain ⟨T1, X1, e1, st1⟩ := getS X0 hx hZ hown (host := "") (hw _ (List.mem_of_getElem? (i := 13) rfl)) Via.refl e0 S_BITS (g := (mkF m 1 #[.val (.ref s_OPAQUE)] [(.ref s_OPAQUE)])) rfl (hb hby d1_1)
  obtain ⟨T2, X2, e2, st2⟩ := getS X1 hx hZ hown (host := "") (hw _ (List.mem_of_getElem? (i := 15) rfl)) Via.refl e1 S_OPAQUE (g := (mkF m 8 #[.val (.ref s_OPAQUE)] [(.ref s_OPAQUE)])) rfl (hb hby d1_8)
  obtain ⟨fs, hr, hrun, hended, hW, hsame⟩ := X2.leave (v := some (.int (0 : Int32))) (fun h => by rw [Bd.returns] at h; cases h)
  refine ⟨_, _, pre0 _ ?_, hrun, hended, _, _, rfl, ?_, ⟨_, rfl⟩, hW, hsame.mono (by decide) (by decide)⟩
  · show Steps p.tables e below (s₁.setTop (mkF m 0 #[.val (.ref s_OPAQUE)] [])) _
    refine XS.aloadN X0.here hx rfl (hb hby d1_0) rfl rfl ?_
    show Steps p.tables e below (s₁.setTop (mkF m 1 #[.val (.ref s_OPAQUE)] [(.ref s_OPAQUE)])) _
    refine st1 _ ?_
    show Steps p.tables e below (T1.setTop (mkF m 4 #[.val (.ref s_OPAQUE)] [(.ref s_BITS), (.ref s_OPAQUE)])) _
    refine Jvm.RoadKit.acmp (g := (mkF m 4 #[.val (.ref s_OPAQUE)] [(.ref s_BITS), (.ref s_OPAQUE)])) X1 hx rfl rfl rfl (pc0 := 4) (pc' := 7) (same := false) rfl (hb hby d1_4) rfl (decide_eq_false fun q => (Ne.symm ne_BITS_OPAQUE) (Value.ref.inj q)) (by decide) (by decide) ?_
    show Steps p.tables e below (T1.setTop (mkF m 7 #[.val (.ref s_OPAQUE)] [])) _
    refine XS.aloadN X1.here hx rfl (hb hby d1_7) rfl rfl ?_
    show Steps p.tables e below (T1.setTop (mkF m 8 #[.val (.ref s_OPAQUE)] [(.ref s_OPAQUE)])) _
    refine st2 _ ?_
    show Steps p.tables e below (T2.setTop (mkF m 11 #[.val (.ref s_OPAQUE)] [(.ref s_OPAQUE), (.ref s_OPAQUE)])) _
    refine Jvm.RoadKit.acmp (g := (mkF m 11 #[.val (.ref s_OPAQUE)] [(.ref s_OPAQUE), (.ref s_OPAQUE)])) X2 hx rfl rfl rfl (pc0 := 11) (pc' := 25) (same := true) rfl (hb hby d1_11) rfl (decide_eq_true rfl) (by decide) (by decide) ?_
    show Steps p.tables e below (T2.setTop (mkF m 25 #[.val (.ref s_OPAQUE)] [])) _
    refine XS.iconst X2.here hx rfl (hb hby d1_25) ?_
    show Steps p.tables e below (T2.setTop (mkF m 26 #[.val (.ref s_OPAQUE)] [(.int (0 : Int32))])) _
    exact retN X2 hx (t := .boolean) Bd.returns (by simp) (hb hby d1_26) hr
  · exact ⟨rfl, N0, e2⟩
set_option maxRecDepth 65536 in
set_option maxHeartbeats 40000000 in
theorem law_k7 (l : Launch) (Z : State) (a0 : Array Value) (hw : ∀ d ∈ tables_1, d.before a0 Z = true) (ws : List Jvm.Cond) (h0 : Heap) (n0 : Nat) (s_NULL : Addr) (s_BITS : Addr) (s_OPAQUE : Addr) (s_CONSTRUCTOR : Addr) (s_END : Addr) (s_STRING : Addr) (s_BOOLEAN : Addr) (s_INTEGER : Addr) (s_OCTETS : Addr) (K : Ctx Z h0 s_NULL s_BITS s_OPAQUE s_CONSTRUCTOR s_END s_STRING s_BOOLEAN s_INTEGER s_OCTETS) (p0 : Int32) (hp0 : ((p0 &&& (2147483647 : Int32)) % (9 : Int32)) = (7 : Int32)) :
    MetFree l x (head1 (Jvm.Cond.code x code maxLocals ret :: ws) room_1) (fun a U => a = #[(.int p0)] ∧ Z.Warmed39 U.vm ∧ U.heap = h0) (fun _ _ _ _ _ => True) (fun _ U o U' => ∃ v L, o = .returned v ∧ QV (.int (1 : Int32)) h0 n0 v U'.heap L ∧ FrameEnd U o U' L room_1.cells room_1.slots) := by
  obtain ⟨S_NULL, S_BITS, ne_BITS_NULL, S_OPAQUE, ne_NULL_OPAQUE, S_CONSTRUCTOR, ne_CONSTRUCTOR_NULL, E_NULL, S_END, ne_BITS_END, ne_END_OPAQUE, ne_CONSTRUCTOR_END, E_END, S_STRING, ne_BITS_STRING, ne_OPAQUE_STRING, ne_CONSTRUCTOR_STRING, E_STRING, S_BOOLEAN, ne_BITS_BOOLEAN, ne_BOOLEAN_OPAQUE, ne_BOOLEAN_CONSTRUCTOR, E_BOOLEAN, S_INTEGER, ne_BITS_INTEGER, ne_INTEGER_OPAQUE, ne_CONSTRUCTOR_INTEGER, E_INTEGER, S_OCTETS, ne_BITS_OCTETS, ne_OCTETS_OPAQUE, ne_CONSTRUCTOR_OCTETS, E_OCTETS, E_BITS, ne_BITS_OPAQUE, E_OPAQUE, ne_BITS_CONSTRUCTOR, ne_CONSTRUCTOR_OPAQUE, E_CONSTRUCTOR⟩ := id K
  refine MetFree.of_bodySF (plainFor_of_name pn2) hisR ?_
  intro p e s m args below meth c s₁ Bd hml0 hP hK
  obtain ⟨rfl, hZ, hh⟩ := hP
  have hx := Bd.exec
  have hby := Bd.bytes
  have hml : c.maxLocals = 4 := hml0
  have hown : s.vm.findClass "com/example/plainwire/plainwire/rfc806/KindBarePinLaw" = some m.cls := findClass_of_methodNamed Bd.named
  have X0 : Stand p l e room_1 s m #[(.int p0)] below meth c s₁ [] 0 0 := Stand.of_body Bd
  have e0 : s₁.heap = h0 := by rw [← hh, Bd.state]; rfl
  have N0 := Fr.nil n0
  have pre0 : ∀ t, Steps p.tables e below (s₁.setTop (mkF m 0 #[.val (.int p0), .unset, .unset, .unset] [])) t → Steps p.tables e below (s₁.setTop (entryFrame m #[(.int p0)] maxLocals)) t := fun t k => castTop (by first | (simp [entryFrame, mkF, argsToLocals, Value.category, maxLocals]; done) | rfl) k
  obtain ⟨_, _, ⟨T1, L1, k1, n1⟩, -, X1, ⟨Lc1, hQ1, l1, y1, z1⟩, st1⟩ := Jvm.LawKit.callS X0 hx (y := (⟨"com/example/plainwire/plainwire/rfc806/KindBarePinLaw", "pick", "(I)Lcom/example/plainwire/plainwire/rfc806/Element$Kind;"⟩ : MethodName)) hown (mvT hZ (hw _ (List.mem_of_getElem? (i := 1) rfl))) (mvT hZ (hw _ (List.mem_of_getElem? (i := 2) rfl))) (mvT hZ (hw _ (List.mem_of_getElem? (i := 3) rfl))) (mvT hZ (hw _ (List.mem_of_getElem? (i := 4) rfl))) (by decide) (backOf (W := 0) (r21 l Z a0 hw [] h0 n0 s_NULL s_BITS s_OPAQUE s_CONSTRUCTOR s_END s_STRING s_BOOLEAN s_INTEGER s_OCTETS K) hZ (hw _ (List.mem_of_getElem? (i := 4) rfl)) (hw _ (List.mem_of_getElem? (i := 3) rfl)) (by decide) (by decide)) (g := (mkF m 9 #[.val (.int p0), .val (.int (7 : Int32)), .unset, .unset] [(.int (7 : Int32))])) rfl (by rw [hml]; rfl) (argsL := [(.int (7 : Int32))]) (rest := []) (lenOf pd0 rfl) rfl (by show 2 * 0 + _ ≤ _; exact Nat.le_of_eq rfl) (hb hby at_9) (fun _ _ => ⟨rfl, e0, (by decide : 0 + 0 ≤ _), (by decide : 0 + 0 ≤ _)⟩)
  dsimp only [Pt.U, Pt.locs, Pt.cells, Pt.slots] at X1 l1 y1 z1 st1 hQ1
  subst l1 y1 z1
  obtain ⟨rfl, N1q, e1⟩ := hQ1
  have N1 := Fr.app N0 N1q
  obtain ⟨cq2, kq2, q2a, q2b, q2c⟩ := isOf hZ e1 E_OPAQUE
  obtain ⟨_, _, ⟨T2, L2, k2, n2⟩, -, X2, ⟨Lc2, hQ2, l2, y2, z2⟩, st2⟩ := X1.virtualBack hx (y := (⟨"com/example/plainwire/plainwire/rfc806/Element$Kind", "bare", "()Z"⟩ : MethodName)) (z := (⟨"com/example/plainwire/plainwire/rfc806/Element$Kind", "bare", "()Z"⟩ : MethodName)) hown (mvT hZ (hw _ (List.mem_of_getElem? (i := 8) rfl))) (mvT hZ (hw _ (List.mem_of_getElem? (i := 9) rfl))) (notFace_of_selects (args := #[]) (mvT hZ (hw _ (List.mem_of_getElem? (i := 11) rfl)))) (mvT hZ (hw _ (List.mem_of_getElem? (i := 11) rfl))) (mvT hZ (hw _ (List.mem_of_getElem? (i := 10) rfl))) (by decide) (backOf (W := 0) (r22 l Z a0 hw [] h0 n0 s_NULL s_BITS s_OPAQUE s_CONSTRUCTOR s_END s_STRING s_BOOLEAN s_INTEGER s_OCTETS K) hZ (hw _ (List.mem_of_getElem? (i := 12) rfl)) (hw _ (List.mem_of_getElem? (i := 6) rfl)) (by decide) (by decide)) q2a q2c (g := (mkF m 26 #[.val (.int p0), .val (.int (7 : Int32)), .val (.ref s_OPAQUE), .val (.int (0 : Int32))] [(.ref s_OPAQUE)])) rfl (by rw [hml]; rfl) (Steps.refl _) (argsL := []) (rest := []) (lenOf pd1 rfl) rfl (by show 2 * 0 + _ ≤ _; exact Nat.le_of_eq rfl) (hb hby at_26) (fun _ _ => ⟨rfl, e1, (by decide : 0 + 0 ≤ _), (by decide : 0 + 0 ≤ _)⟩)
  dsimp only [Pt.U, Pt.locs, Pt.cells, Pt.slots] at X2 l2 y2 z2 st2 hQ2
  subst l2 y2 z2
  obtain ⟨rfl, N2q, e2⟩ := hQ2
  have N2 := Fr.app N1 N2q
  obtain ⟨fs, hr, hrun, hended, hW, hsame⟩ := X2.leave (v := some (.int (1 : Int32))) (fun h => by rw [Bd.returns] at h; cases h)
  refine ⟨_, _, pre0 _ ?_, hrun, hended, _, _, rfl, ?_, ⟨_, rfl⟩, hW, hsame.mono (by decide) (by decide)⟩
  · show Steps p.tables e below (s₁.setTop (mkF m 0 #[.val (.int p0), .unset, .unset, .unset] [])) _
    refine XS.iloadN X0.here hx rfl (hb hby at_0) rfl ?_
    show Steps p.tables e below (s₁.setTop (mkF m 1 #[.val (.int p0), .unset, .unset, .unset] [(.int p0)])) _
    refine X0.ldcInt hx hown (mvT hZ (hw _ (List.mem_of_getElem? (i := 0) rfl))) (g := (mkF m 1 #[.val (.int p0), .unset, .unset, .unset] [(.int p0)])) rfl (hb hby at_1) _ ?_
    show Steps p.tables e below (s₁.setTop (mkF m 3 #[.val (.int p0), .unset, .unset, .unset] [(.int (2147483647 : Int32)), (.int p0)])) _
    refine XS.iand X0.here hx rfl (hb hby at_3) rfl ?_
    show Steps p.tables e below (s₁.setTop (mkF m 4 #[.val (.int p0), .unset, .unset, .unset] [(.int (p0 &&& (2147483647 : Int32)))])) _
    refine XS.bipush X0.here hx rfl (hb hby at_4) ?_
    show Steps p.tables e below (s₁.setTop (mkF m 6 #[.val (.int p0), .unset, .unset, .unset] [(.int (9 : Int32)), (.int (p0 &&& (2147483647 : Int32)))])) _
    refine Jvm.RoadKit.iremM X0 hx rfl (hb hby at_6) rfl (by decide) ?_
    show Steps p.tables e below (s₁.setTop (mkF m 7 #[.val (.int p0), .unset, .unset, .unset] [(.int ((p0 &&& (2147483647 : Int32)) % (9 : Int32)))])) _
    rw [hp0]
    show Steps p.tables e below (s₁.setTop (mkF m 7 #[.val (.int p0), .unset, .unset, .unset] [(.int (7 : Int32))])) _
    refine XS.istoreN X0.here hx rfl (hb hby at_7) rfl (l' := #[.val (.int p0), .val (.int (7 : Int32)), .unset, .unset]) rfl ?_
    show Steps p.tables e below (s₁.setTop (mkF m 8 #[.val (.int p0), .val (.int (7 : Int32)), .unset, .unset] [])) _
    refine XS.iloadN X0.here hx rfl (hb hby at_8) rfl ?_
    show Steps p.tables e below (s₁.setTop (mkF m 9 #[.val (.int p0), .val (.int (7 : Int32)), .unset, .unset] [(.int (7 : Int32))])) _
    refine st1 _ ?_
    show Steps p.tables e below (T1.setTop (mkF m 12 #[.val (.int p0), .val (.int (7 : Int32)), .unset, .unset] [(.ref s_OPAQUE)])) _
    refine XS.astoreN X1.here hx rfl (hb hby at_12) rfl rfl (l' := #[.val (.int p0), .val (.int (7 : Int32)), .val (.ref s_OPAQUE), .unset]) rfl ?_
    show Steps p.tables e below (T1.setTop (mkF m 13 #[.val (.int p0), .val (.int (7 : Int32)), .val (.ref s_OPAQUE), .unset] [])) _
    refine XS.iloadN X1.here hx rfl (hb hby at_13) rfl ?_
    show Steps p.tables e below (T1.setTop (mkF m 14 #[.val (.int p0), .val (.int (7 : Int32)), .val (.ref s_OPAQUE), .unset] [(.int (7 : Int32))])) _
    refine XS.bipush X1.here hx rfl (hb hby at_14) ?_
    show Steps p.tables e below (T1.setTop (mkF m 16 #[.val (.int p0), .val (.int (7 : Int32)), .val (.ref s_OPAQUE), .unset] [(.int (6 : Int32)), (.int (7 : Int32))])) _
    refine XS.icmpYes X1.here hx rfl (pc0 := 16) (pc' := 23) rfl (hb hby at_16) rfl (by decide +kernel) (by decide) (by decide) ?_
    show Steps p.tables e below (T1.setTop (mkF m 23 #[.val (.int p0), .val (.int (7 : Int32)), .val (.ref s_OPAQUE), .unset] [])) _
    refine XS.iconst X1.here hx rfl (hb hby at_23) ?_
    show Steps p.tables e below (T1.setTop (mkF m 24 #[.val (.int p0), .val (.int (7 : Int32)), .val (.ref s_OPAQUE), .unset] [(.int (0 : Int32))])) _
    refine XS.istoreN X1.here hx rfl (hb hby at_24) rfl (l' := #[.val (.int p0), .val (.int (7 : Int32)), .val (.ref s_OPAQUE), .val (.int (0 : Int32))]) rfl ?_
    show Steps p.tables e below (T1.setTop (mkF m 25 #[.val (.int p0), .val (.int (7 : Int32)), .val (.ref s_OPAQUE), .val (.int (0 : Int32))] [])) _
    refine XS.aloadN X1.here hx rfl (hb hby at_25) rfl rfl ?_
    show Steps p.tables e below (T1.setTop (mkF m 26 #[.val (.int p0), .val (.int (7 : Int32)), .val (.ref s_OPAQUE), .val (.int (0 : Int32))] [(.ref s_OPAQUE)])) _
    refine st2.trans ?_
    show Steps p.tables e below (T2.setTop (mkF m 29 #[.val (.int p0), .val (.int (7 : Int32)), .val (.ref s_OPAQUE), .val (.int (0 : Int32))] [(.int (0 : Int32))])) _
    refine XS.iloadN X2.here hx rfl (hb hby at_29) rfl ?_
    show Steps p.tables e below (T2.setTop (mkF m 30 #[.val (.int p0), .val (.int (7 : Int32)), .val (.ref s_OPAQUE), .val (.int (0 : Int32))] [(.int (0 : Int32)), (.int (0 : Int32))])) _
    refine XS.icmpNo X2.here hx rfl (hb hby at_30) rfl (by decide +kernel) ?_
    show Steps p.tables e below (T2.setTop (mkF m 33 #[.val (.int p0), .val (.int (7 : Int32)), .val (.ref s_OPAQUE), .val (.int (0 : Int32))] [])) _
    refine XS.iconst X2.here hx rfl (hb hby at_33) ?_
    show Steps p.tables e below (T2.setTop (mkF m 34 #[.val (.int p0), .val (.int (7 : Int32)), .val (.ref s_OPAQUE), .val (.int (0 : Int32))] [(.int (1 : Int32))])) _
    refine XS.goto X2.here hx rfl (pc0 := 34) (pc' := 38) rfl (hb hby at_34) (by decide) (by decide) ?_
    show Steps p.tables e below (T2.setTop (mkF m 38 #[.val (.int p0), .val (.int (7 : Int32)), .val (.ref s_OPAQUE), .val (.int (0 : Int32))] [(.int (1 : Int32))])) _
    exact retN X2 hx (t := .boolean) Bd.returns (by simp) (hb hby at_38) hr
  · exact ⟨rfl, N2, e2⟩
set_option maxRecDepth 65536 in
set_option maxHeartbeats 40000000 in
theorem r24 (l : Launch) (Z : State) (a0 : Array Value) (hw : ∀ d ∈ tables_1, d.before a0 Z = true) (ws : List Jvm.Cond) (h0 : Heap) (n0 : Nat) (s_NULL : Addr) (s_BITS : Addr) (s_OPAQUE : Addr) (s_CONSTRUCTOR : Addr) (s_END : Addr) (s_STRING : Addr) (s_BOOLEAN : Addr) (s_INTEGER : Addr) (s_OCTETS : Addr) (K : Ctx Z h0 s_NULL s_BITS s_OPAQUE s_CONSTRUCTOR s_END s_STRING s_BOOLEAN s_INTEGER s_OCTETS) :
    MetFree l (⟨"com/example/plainwire/plainwire/rfc806/KindBarePinLaw", "pick", "(I)Lcom/example/plainwire/plainwire/rfc806/Element$Kind;"⟩ : MethodName) (head1 (Jvm.Cond.code (⟨"com/example/plainwire/plainwire/rfc806/KindBarePinLaw", "pick", "(I)Lcom/example/plainwire/plainwire/rfc806/Element$Kind;"⟩ : MethodName) method_2_code 1 (some (.object "com/example/plainwire/plainwire/rfc806/Element$Kind")) :: ws) ({ frames := 0, cells := 0, slots := 0, locals := 0 } : Room)) (fun a U => a = #[(.int (8 : Int32))] ∧ Z.Warmed39 U.vm ∧ U.heap = h0) (fun _ _ _ _ _ => True) (fun _ U o U' => ∃ v L, o = .returned v ∧ QV (.ref s_CONSTRUCTOR) h0 n0 v U'.heap L ∧ FrameEnd U o U' L ({ frames := 0, cells := 0, slots := 0, locals := 0 } : Room).cells ({ frames := 0, cells := 0, slots := 0, locals := 0 } : Room).slots) := by
  obtain ⟨S_NULL, S_BITS, ne_BITS_NULL, S_OPAQUE, ne_NULL_OPAQUE, S_CONSTRUCTOR, ne_CONSTRUCTOR_NULL, E_NULL, S_END, ne_BITS_END, ne_END_OPAQUE, ne_CONSTRUCTOR_END, E_END, S_STRING, ne_BITS_STRING, ne_OPAQUE_STRING, ne_CONSTRUCTOR_STRING, E_STRING, S_BOOLEAN, ne_BITS_BOOLEAN, ne_BOOLEAN_OPAQUE, ne_BOOLEAN_CONSTRUCTOR, E_BOOLEAN, S_INTEGER, ne_BITS_INTEGER, ne_INTEGER_OPAQUE, ne_CONSTRUCTOR_INTEGER, E_INTEGER, S_OCTETS, ne_BITS_OCTETS, ne_OCTETS_OPAQUE, ne_CONSTRUCTOR_OCTETS, E_OCTETS, E_BITS, ne_BITS_OPAQUE, E_OPAQUE, ne_BITS_CONSTRUCTOR, ne_CONSTRUCTOR_OPAQUE, E_CONSTRUCTOR⟩ := id K
  refine MetFree.of_bodySF (plainFor_of_name pn0) hisR ?_
  intro p e s m args below meth c s₁ Bd hml0 hP hK
  obtain ⟨rfl, hZ, hh⟩ := hP
  have hx := Bd.exec
  have hby := Bd.bytes
  have hml : c.maxLocals = 1 := hml0
  have hown : s.vm.findClass "com/example/plainwire/plainwire/rfc806/KindBarePinLaw" = some m.cls := findClass_of_methodNamed Bd.named
  have X0 : Stand p l e ({ frames := 0, cells := 0, slots := 0, locals := 0 } : Room) s m #[(.int (8 : Int32))] below meth c s₁ [] 0 0 := Stand.of_body Bd
  have e0 : s₁.heap = h0 := by rw [← hh, Bd.state]; rfl
  have N0 := Fr.nil n0
  have pre0 : ∀ t, Steps p.tables e below (s₁.setTop (mkF m 0 #[.val (.int (8 : Int32))] [])) t → Steps p.tables e below (s₁.setTop (entryFrame m #[(.int (8 : Int32))] 1)) t := fun t k => castTop (by first | (simp [entryFrame, mkF, argsToLocals, Value.category]; done) | rfl) k
  obtain ⟨T1, X1, e1, st1⟩ := getS X0 hx hZ hown (host := "") (hw _ (List.mem_of_getElem? (i := 28) rfl)) Via.refl e0 S_CONSTRUCTOR (g := (mkF m 73 #[.val (.int (8 : Int32))] [])) rfl (hb hby d0_73)
  obtain ⟨fs, hr, hrun, hended, hW, hsame⟩ := X1.leave (v := some (.ref s_CONSTRUCTOR)) (fun h => by rw [Bd.returns] at h; cases h)
  refine ⟨_, _, pre0 _ ?_, hrun, hended, _, _, rfl, ?_, ⟨_, rfl⟩, hW, hsame.mono (by decide) (by decide)⟩
  · show Steps p.tables e below (s₁.setTop (mkF m 0 #[.val (.int (8 : Int32))] [])) _
    refine XS.iloadN X0.here hx rfl (hb hby d0_0) rfl ?_
    show Steps p.tables e below (s₁.setTop (mkF m 1 #[.val (.int (8 : Int32))] [(.int (8 : Int32))])) _
    refine XS.ifYes X0.here hx rfl (pc0 := 1) (pc' := 8) rfl (hb hby d0_1) rfl (by decide +kernel) (by decide) (by decide) ?_
    show Steps p.tables e below (s₁.setTop (mkF m 8 #[.val (.int (8 : Int32))] [])) _
    refine XS.iloadN X0.here hx rfl (hb hby d0_8) rfl ?_
    show Steps p.tables e below (s₁.setTop (mkF m 9 #[.val (.int (8 : Int32))] [(.int (8 : Int32))])) _
    refine XS.iconst X0.here hx rfl (hb hby d0_9) ?_
    show Steps p.tables e below (s₁.setTop (mkF m 10 #[.val (.int (8 : Int32))] [(.int (1 : Int32)), (.int (8 : Int32))])) _
    refine XS.icmpYes X0.here hx rfl (pc0 := 10) (pc' := 17) rfl (hb hby d0_10) rfl (by decide +kernel) (by decide) (by decide) ?_
    show Steps p.tables e below (s₁.setTop (mkF m 17 #[.val (.int (8 : Int32))] [])) _
    refine XS.iloadN X0.here hx rfl (hb hby d0_17) rfl ?_
    show Steps p.tables e below (s₁.setTop (mkF m 18 #[.val (.int (8 : Int32))] [(.int (8 : Int32))])) _
    refine XS.iconst X0.here hx rfl (hb hby d0_18) ?_
    show Steps p.tables e below (s₁.setTop (mkF m 19 #[.val (.int (8 : Int32))] [(.int (2 : Int32)), (.int (8 : Int32))])) _
    refine XS.icmpYes X0.here hx rfl (pc0 := 19) (pc' := 26) rfl (hb hby d0_19) rfl (by decide +kernel) (by decide) (by decide) ?_
    show Steps p.tables e below (s₁.setTop (mkF m 26 #[.val (.int (8 : Int32))] [])) _
    refine XS.iloadN X0.here hx rfl (hb hby d0_26) rfl ?_
    show Steps p.tables e below (s₁.setTop (mkF m 27 #[.val (.int (8 : Int32))] [(.int (8 : Int32))])) _
    refine XS.iconst X0.here hx rfl (hb hby d0_27) ?_
    show Steps p.tables e below (s₁.setTop (mkF m 28 #[.val (.int (8 : Int32))] [(.int (3 : Int32)), (.int (8 : Int32))])) _
    refine XS.icmpYes X0.here hx rfl (pc0 := 28) (pc' := 35) rfl (hb hby d0_28) rfl (by decide +kernel) (by decide) (by decide) ?_
    show Steps p.tables e below (s₁.setTop (mkF m 35 #[.val (.int (8 : Int32))] [])) _
    refine XS.iloadN X0.here hx rfl (hb hby d0_35) rfl ?_
    show Steps p.tables e below (s₁.setTop (mkF m 36 #[.val (.int (8 : Int32))] [(.int (8 : Int32))])) _
    refine XS.iconst X0.here hx rfl (hb hby d0_36) ?_
    show Steps p.tables e below (s₁.setTop (mkF m 37 #[.val (.int (8 : Int32))] [(.int (4 : Int32)), (.int (8 : Int32))])) _
    refine XS.icmpYes X0.here hx rfl (pc0 := 37) (pc' := 44) rfl (hb hby d0_37) rfl (by decide +kernel) (by decide) (by decide) ?_
    show Steps p.tables e below (s₁.setTop (mkF m 44 #[.val (.int (8 : Int32))] [])) _
    refine XS.iloadN X0.here hx rfl (hb hby d0_44) rfl ?_
    show Steps p.tables e below (s₁.setTop (mkF m 45 #[.val (.int (8 : Int32))] [(.int (8 : Int32))])) _
    refine XS.iconst X0.here hx rfl (hb hby d0_45) ?_
    show Steps p.tables e below (s₁.setTop (mkF m 46 #[.val (.int (8 : Int32))] [(.int (5 : Int32)), (.int (8 : Int32))])) _
    refine XS.icmpYes X0.here hx rfl (pc0 := 46) (pc' := 53) rfl (hb hby d0_46) rfl (by decide +kernel) (by decide) (by decide) ?_
    show Steps p.tables e below (s₁.setTop (mkF m 53 #[.val (.int (8 : Int32))] [])) _
    refine XS.iloadN X0.here hx rfl (hb hby d0_53) rfl ?_
    show Steps p.tables e below (s₁.setTop (mkF m 54 #[.val (.int (8 : Int32))] [(.int (8 : Int32))])) _
    refine XS.bipush X0.here hx rfl (hb hby d0_54) ?_
    show Steps p.tables e below (s₁.setTop (mkF m 56 #[.val (.int (8 : Int32))] [(.int (6 : Int32)), (.int (8 : Int32))])) _
    refine XS.icmpYes X0.here hx rfl (pc0 := 56) (pc' := 63) rfl (hb hby d0_56) rfl (by decide +kernel) (by decide) (by decide) ?_
    show Steps p.tables e below (s₁.setTop (mkF m 63 #[.val (.int (8 : Int32))] [])) _
    refine XS.iloadN X0.here hx rfl (hb hby d0_63) rfl ?_
    show Steps p.tables e below (s₁.setTop (mkF m 64 #[.val (.int (8 : Int32))] [(.int (8 : Int32))])) _
    refine XS.bipush X0.here hx rfl (hb hby d0_64) ?_
    show Steps p.tables e below (s₁.setTop (mkF m 66 #[.val (.int (8 : Int32))] [(.int (7 : Int32)), (.int (8 : Int32))])) _
    refine XS.icmpYes X0.here hx rfl (pc0 := 66) (pc' := 73) rfl (hb hby d0_66) rfl (by decide +kernel) (by decide) (by decide) ?_
    show Steps p.tables e below (s₁.setTop (mkF m 73 #[.val (.int (8 : Int32))] [])) _
    refine st1 _ ?_
    show Steps p.tables e below (T1.setTop (mkF m 76 #[.val (.int (8 : Int32))] [(.ref s_CONSTRUCTOR)])) _
    exact retOut X1 hx (i := .areturn) Bd.returns rfl (Or.inr (Or.inr (Or.inr (Or.inr ⟨rfl, rfl, rfl⟩)))) (hb hby d0_76) hr
  · exact ⟨rfl, N0, e1⟩
set_option maxRecDepth 65536 in
set_option maxHeartbeats 40000000 in
theorem r25 (l : Launch) (Z : State) (a0 : Array Value) (hw : ∀ d ∈ tables_1, d.before a0 Z = true) (ws : List Jvm.Cond) (h0 : Heap) (n0 : Nat) (s_NULL : Addr) (s_BITS : Addr) (s_OPAQUE : Addr) (s_CONSTRUCTOR : Addr) (s_END : Addr) (s_STRING : Addr) (s_BOOLEAN : Addr) (s_INTEGER : Addr) (s_OCTETS : Addr) (K : Ctx Z h0 s_NULL s_BITS s_OPAQUE s_CONSTRUCTOR s_END s_STRING s_BOOLEAN s_INTEGER s_OCTETS) :
    MetFree l (⟨"com/example/plainwire/plainwire/rfc806/Element$Kind", "bare", "()Z"⟩ : MethodName) (head1 (Jvm.Cond.code (⟨"com/example/plainwire/plainwire/rfc806/Element$Kind", "bare", "()Z"⟩ : MethodName) prog_102_method_4_code 1 (some .boolean) :: ws) ({ frames := 0, cells := 0, slots := 0, locals := 0 } : Room)) (fun a U => a = #[(.ref s_CONSTRUCTOR)] ∧ Z.Warmed39 U.vm ∧ U.heap = h0) (fun _ _ _ _ _ => True) (fun _ U o U' => ∃ v L, o = .returned v ∧ QV (.int (0 : Int32)) h0 n0 v U'.heap L ∧ FrameEnd U o U' L ({ frames := 0, cells := 0, slots := 0, locals := 0 } : Room).cells ({ frames := 0, cells := 0, slots := 0, locals := 0 } : Room).slots) := by
  obtain ⟨S_NULL, S_BITS, ne_BITS_NULL, S_OPAQUE, ne_NULL_OPAQUE, S_CONSTRUCTOR, ne_CONSTRUCTOR_NULL, E_NULL, S_END, ne_BITS_END, ne_END_OPAQUE, ne_CONSTRUCTOR_END, E_END, S_STRING, ne_BITS_STRING, ne_OPAQUE_STRING, ne_CONSTRUCTOR_STRING, E_STRING, S_BOOLEAN, ne_BITS_BOOLEAN, ne_BOOLEAN_OPAQUE, ne_BOOLEAN_CONSTRUCTOR, E_BOOLEAN, S_INTEGER, ne_BITS_INTEGER, ne_INTEGER_OPAQUE, ne_CONSTRUCTOR_INTEGER, E_INTEGER, S_OCTETS, ne_BITS_OCTETS, ne_OCTETS_OPAQUE, ne_CONSTRUCTOR_OCTETS, E_OCTETS, E_BITS, ne_BITS_OPAQUE, E_OPAQUE, ne_BITS_CONSTRUCTOR, ne_CONSTRUCTOR_OPAQUE, E_CONSTRUCTOR⟩ := id K
  refine MetFree.of_bodySF (plainFor_of_name pn1) hisR ?_
  intro p e s m args below meth c s₁ Bd hml0 hP hK
  obtain ⟨rfl, hZ, hh⟩ := hP
  have hx := Bd.exec
  have hby := Bd.bytes
  have hml : c.maxLocals = 1 := hml0
  have hown : s.vm.findClass "com/example/plainwire/plainwire/rfc806/Element$Kind" = some m.cls := findClass_of_methodNamed Bd.named
  have X0 : Stand p l e ({ frames := 0, cells := 0, slots := 0, locals := 0 } : Room) s m #[(.ref s_CONSTRUCTOR)] below meth c s₁ [] 0 0 := Stand.of_body Bd
  have e0 : s₁.heap = h0 := by rw [← hh, Bd.state]; rfl
  have N0 := Fr.nil n0
  have pre0 : ∀ t, Steps p.tables e below (s₁.setTop (mkF m 0 #[.val (.ref s_CONSTRUCTOR)] [])) t → Steps p.tables e below (s₁.setTop (entryFrame m #[(.ref s_CONSTRUCTOR)] 1)) t := fun t k => castTop (by first | (simp [entryFrame, mkF, argsToLocals, Value.category]; done) | rfl) k
  obtain ⟨T1, X1, e1, st1⟩ := getS X0 hx hZ hown (host := "") (hw _ (List.mem_of_getElem? (i := 13) rfl)) Via.refl e0 S_BITS (g := (mkF m 1 #[.val (.ref s_CONSTRUCTOR)] [(.ref s_CONSTRUCTOR)])) rfl (hb hby d1_1)
  obtain ⟨T2, X2, e2, st2⟩ := getS X1 hx hZ hown (host := "") (hw _ (List.mem_of_getElem? (i := 15) rfl)) Via.refl e1 S_OPAQUE (g := (mkF m 8 #[.val (.ref s_CONSTRUCTOR)] [(.ref s_CONSTRUCTOR)])) rfl (hb hby d1_8)
  obtain ⟨T3, X3, e3, st3⟩ := getS X2 hx hZ hown (host := "") (hw _ (List.mem_of_getElem? (i := 17) rfl)) Via.refl e2 S_CONSTRUCTOR (g := (mkF m 15 #[.val (.ref s_CONSTRUCTOR)] [(.ref s_CONSTRUCTOR)])) rfl (hb hby d1_15)
  obtain ⟨fs, hr, hrun, hended, hW, hsame⟩ := X3.leave (v := some (.int (0 : Int32))) (fun h => by rw [Bd.returns] at h; cases h)
  refine ⟨_, _, pre0 _ ?_, hrun, hended, _, _, rfl, ?_, ⟨_, rfl⟩, hW, hsame.mono (by decide) (by decide)⟩
  · show Steps p.tables e below (s₁.setTop (mkF m 0 #[.val (.ref s_CONSTRUCTOR)] [])) _
    refine XS.aloadN X0.here hx rfl (hb hby d1_0) rfl rfl ?_
    show Steps p.tables e below (s₁.setTop (mkF m 1 #[.val (.ref s_CONSTRUCTOR)] [(.ref s_CONSTRUCTOR)])) _
    refine st1 _ ?_
    show Steps p.tables e below (T1.setTop (mkF m 4 #[.val (.ref s_CONSTRUCTOR)] [(.ref s_BITS), (.ref s_CONSTRUCTOR)])) _
    refine Jvm.RoadKit.acmp (g := (mkF m 4 #[.val (.ref s_CONSTRUCTOR)] [(.ref s_BITS), (.ref s_CONSTRUCTOR)])) X1 hx rfl rfl rfl (pc0 := 4) (pc' := 7) (same := false) rfl (hb hby d1_4) rfl (decide_eq_false fun q => (Ne.symm ne_BITS_CONSTRUCTOR) (Value.ref.inj q)) (by decide) (by decide) ?_
    show Steps p.tables e below (T1.setTop (mkF m 7 #[.val (.ref s_CONSTRUCTOR)] [])) _
    refine XS.aloadN X1.here hx rfl (hb hby d1_7) rfl rfl ?_
    show Steps p.tables e below (T1.setTop (mkF m 8 #[.val (.ref s_CONSTRUCTOR)] [(.ref s_CONSTRUCTOR)])) _
    refine st2 _ ?_
    show Steps p.tables e below (T2.setTop (mkF m 11 #[.val (.ref s_CONSTRUCTOR)] [(.ref s_OPAQUE), (.ref s_CONSTRUCTOR)])) _
    refine Jvm.RoadKit.acmp (g := (mkF m 11 #[.val (.ref s_CONSTRUCTOR)] [(.ref s_OPAQUE), (.ref s_CONSTRUCTOR)])) X2 hx rfl rfl rfl (pc0 := 11) (pc' := 14) (same := false) rfl (hb hby d1_11) rfl (decide_eq_false fun q => ne_CONSTRUCTOR_OPAQUE (Value.ref.inj q)) (by decide) (by decide) ?_
    show Steps p.tables e below (T2.setTop (mkF m 14 #[.val (.ref s_CONSTRUCTOR)] [])) _
    refine XS.aloadN X2.here hx rfl (hb hby d1_14) rfl rfl ?_
    show Steps p.tables e below (T2.setTop (mkF m 15 #[.val (.ref s_CONSTRUCTOR)] [(.ref s_CONSTRUCTOR)])) _
    refine st3 _ ?_
    show Steps p.tables e below (T3.setTop (mkF m 18 #[.val (.ref s_CONSTRUCTOR)] [(.ref s_CONSTRUCTOR), (.ref s_CONSTRUCTOR)])) _
    refine Jvm.RoadKit.acmp (g := (mkF m 18 #[.val (.ref s_CONSTRUCTOR)] [(.ref s_CONSTRUCTOR), (.ref s_CONSTRUCTOR)])) X3 hx rfl rfl rfl (pc0 := 18) (pc' := 25) (same := true) rfl (hb hby d1_18) rfl (decide_eq_true rfl) (by decide) (by decide) ?_
    show Steps p.tables e below (T3.setTop (mkF m 25 #[.val (.ref s_CONSTRUCTOR)] [])) _
    refine XS.iconst X3.here hx rfl (hb hby d1_25) ?_
    show Steps p.tables e below (T3.setTop (mkF m 26 #[.val (.ref s_CONSTRUCTOR)] [(.int (0 : Int32))])) _
    exact retN X3 hx (t := .boolean) Bd.returns (by simp) (hb hby d1_26) hr
  · exact ⟨rfl, N0, e3⟩
set_option maxRecDepth 65536 in
set_option maxHeartbeats 40000000 in
theorem law_k8 (l : Launch) (Z : State) (a0 : Array Value) (hw : ∀ d ∈ tables_1, d.before a0 Z = true) (ws : List Jvm.Cond) (h0 : Heap) (n0 : Nat) (s_NULL : Addr) (s_BITS : Addr) (s_OPAQUE : Addr) (s_CONSTRUCTOR : Addr) (s_END : Addr) (s_STRING : Addr) (s_BOOLEAN : Addr) (s_INTEGER : Addr) (s_OCTETS : Addr) (K : Ctx Z h0 s_NULL s_BITS s_OPAQUE s_CONSTRUCTOR s_END s_STRING s_BOOLEAN s_INTEGER s_OCTETS) (p0 : Int32) (hp0 : ((p0 &&& (2147483647 : Int32)) % (9 : Int32)) = (8 : Int32)) :
    MetFree l x (head1 (Jvm.Cond.code x code maxLocals ret :: ws) room_1) (fun a U => a = #[(.int p0)] ∧ Z.Warmed39 U.vm ∧ U.heap = h0) (fun _ _ _ _ _ => True) (fun _ U o U' => ∃ v L, o = .returned v ∧ QV (.int (1 : Int32)) h0 n0 v U'.heap L ∧ FrameEnd U o U' L room_1.cells room_1.slots) := by
  obtain ⟨S_NULL, S_BITS, ne_BITS_NULL, S_OPAQUE, ne_NULL_OPAQUE, S_CONSTRUCTOR, ne_CONSTRUCTOR_NULL, E_NULL, S_END, ne_BITS_END, ne_END_OPAQUE, ne_CONSTRUCTOR_END, E_END, S_STRING, ne_BITS_STRING, ne_OPAQUE_STRING, ne_CONSTRUCTOR_STRING, E_STRING, S_BOOLEAN, ne_BITS_BOOLEAN, ne_BOOLEAN_OPAQUE, ne_BOOLEAN_CONSTRUCTOR, E_BOOLEAN, S_INTEGER, ne_BITS_INTEGER, ne_INTEGER_OPAQUE, ne_CONSTRUCTOR_INTEGER, E_INTEGER, S_OCTETS, ne_BITS_OCTETS, ne_OCTETS_OPAQUE, ne_CONSTRUCTOR_OCTETS, E_OCTETS, E_BITS, ne_BITS_OPAQUE, E_OPAQUE, ne_BITS_CONSTRUCTOR, ne_CONSTRUCTOR_OPAQUE, E_CONSTRUCTOR⟩ := id K
  refine MetFree.of_bodySF (plainFor_of_name pn2) hisR ?_
  intro p e s m args below meth c s₁ Bd hml0 hP hK
  obtain ⟨rfl, hZ, hh⟩ := hP
  have hx := Bd.exec
  have hby := Bd.bytes
  have hml : c.maxLocals = 4 := hml0
  have hown : s.vm.findClass "com/example/plainwire/plainwire/rfc806/KindBarePinLaw" = some m.cls := findClass_of_methodNamed Bd.named
  have X0 : Stand p l e room_1 s m #[(.int p0)] below meth c s₁ [] 0 0 := Stand.of_body Bd
  have e0 : s₁.heap = h0 := by rw [← hh, Bd.state]; rfl
  have N0 := Fr.nil n0
  have pre0 : ∀ t, Steps p.tables e below (s₁.setTop (mkF m 0 #[.val (.int p0), .unset, .unset, .unset] [])) t → Steps p.tables e below (s₁.setTop (entryFrame m #[(.int p0)] maxLocals)) t := fun t k => castTop (by first | (simp [entryFrame, mkF, argsToLocals, Value.category, maxLocals]; done) | rfl) k
  obtain ⟨_, _, ⟨T1, L1, k1, n1⟩, -, X1, ⟨Lc1, hQ1, l1, y1, z1⟩, st1⟩ := Jvm.LawKit.callS X0 hx (y := (⟨"com/example/plainwire/plainwire/rfc806/KindBarePinLaw", "pick", "(I)Lcom/example/plainwire/plainwire/rfc806/Element$Kind;"⟩ : MethodName)) hown (mvT hZ (hw _ (List.mem_of_getElem? (i := 1) rfl))) (mvT hZ (hw _ (List.mem_of_getElem? (i := 2) rfl))) (mvT hZ (hw _ (List.mem_of_getElem? (i := 3) rfl))) (mvT hZ (hw _ (List.mem_of_getElem? (i := 4) rfl))) (by decide) (backOf (W := 0) (r24 l Z a0 hw [] h0 n0 s_NULL s_BITS s_OPAQUE s_CONSTRUCTOR s_END s_STRING s_BOOLEAN s_INTEGER s_OCTETS K) hZ (hw _ (List.mem_of_getElem? (i := 4) rfl)) (hw _ (List.mem_of_getElem? (i := 3) rfl)) (by decide) (by decide)) (g := (mkF m 9 #[.val (.int p0), .val (.int (8 : Int32)), .unset, .unset] [(.int (8 : Int32))])) rfl (by rw [hml]; rfl) (argsL := [(.int (8 : Int32))]) (rest := []) (lenOf pd0 rfl) rfl (by show 2 * 0 + _ ≤ _; exact Nat.le_of_eq rfl) (hb hby at_9) (fun _ _ => ⟨rfl, e0, (by decide : 0 + 0 ≤ _), (by decide : 0 + 0 ≤ _)⟩)
  dsimp only [Pt.U, Pt.locs, Pt.cells, Pt.slots] at X1 l1 y1 z1 st1 hQ1
  subst l1 y1 z1
  obtain ⟨rfl, N1q, e1⟩ := hQ1
  have N1 := Fr.app N0 N1q
  obtain ⟨cq2, kq2, q2a, q2b, q2c⟩ := isOf hZ e1 E_CONSTRUCTOR
  obtain ⟨_, _, ⟨T2, L2, k2, n2⟩, -, X2, ⟨Lc2, hQ2, l2, y2, z2⟩, st2⟩ := X1.virtualBack hx (y := (⟨"com/example/plainwire/plainwire/rfc806/Element$Kind", "bare", "()Z"⟩ : MethodName)) (z := (⟨"com/example/plainwire/plainwire/rfc806/Element$Kind", "bare", "()Z"⟩ : MethodName)) hown (mvT hZ (hw _ (List.mem_of_getElem? (i := 8) rfl))) (mvT hZ (hw _ (List.mem_of_getElem? (i := 9) rfl))) (notFace_of_selects (args := #[]) (mvT hZ (hw _ (List.mem_of_getElem? (i := 11) rfl)))) (mvT hZ (hw _ (List.mem_of_getElem? (i := 11) rfl))) (mvT hZ (hw _ (List.mem_of_getElem? (i := 10) rfl))) (by decide) (backOf (W := 0) (r25 l Z a0 hw [] h0 n0 s_NULL s_BITS s_OPAQUE s_CONSTRUCTOR s_END s_STRING s_BOOLEAN s_INTEGER s_OCTETS K) hZ (hw _ (List.mem_of_getElem? (i := 12) rfl)) (hw _ (List.mem_of_getElem? (i := 6) rfl)) (by decide) (by decide)) q2a q2c (g := (mkF m 26 #[.val (.int p0), .val (.int (8 : Int32)), .val (.ref s_CONSTRUCTOR), .val (.int (0 : Int32))] [(.ref s_CONSTRUCTOR)])) rfl (by rw [hml]; rfl) (Steps.refl _) (argsL := []) (rest := []) (lenOf pd1 rfl) rfl (by show 2 * 0 + _ ≤ _; exact Nat.le_of_eq rfl) (hb hby at_26) (fun _ _ => ⟨rfl, e1, (by decide : 0 + 0 ≤ _), (by decide : 0 + 0 ≤ _)⟩)
  dsimp only [Pt.U, Pt.locs, Pt.cells, Pt.slots] at X2 l2 y2 z2 st2 hQ2
  subst l2 y2 z2
  obtain ⟨rfl, N2q, e2⟩ := hQ2
  have N2 := Fr.app N1 N2q
  obtain ⟨fs, hr, hrun, hended, hW, hsame⟩ := X2.leave (v := some (.int (1 : Int32))) (fun h => by rw [Bd.returns] at h; cases h)
  refine ⟨_, _, pre0 _ ?_, hrun, hended, _, _, rfl, ?_, ⟨_, rfl⟩, hW, hsame.mono (by decide) (by decide)⟩
  · show Steps p.tables e below (s₁.setTop (mkF m 0 #[.val (.int p0), .unset, .unset, .unset] [])) _
    refine XS.iloadN X0.here hx rfl (hb hby at_0) rfl ?_
    show Steps p.tables e below (s₁.setTop (mkF m 1 #[.val (.int p0), .unset, .unset, .unset] [(.int p0)])) _
    refine X0.ldcInt hx hown (mvT hZ (hw _ (List.mem_of_getElem? (i := 0) rfl))) (g := (mkF m 1 #[.val (.int p0), .unset, .unset, .unset] [(.int p0)])) rfl (hb hby at_1) _ ?_
    show Steps p.tables e below (s₁.setTop (mkF m 3 #[.val (.int p0), .unset, .unset, .unset] [(.int (2147483647 : Int32)), (.int p0)])) _
    refine XS.iand X0.here hx rfl (hb hby at_3) rfl ?_
    show Steps p.tables e below (s₁.setTop (mkF m 4 #[.val (.int p0), .unset, .unset, .unset] [(.int (p0 &&& (2147483647 : Int32)))])) _
    refine XS.bipush X0.here hx rfl (hb hby at_4) ?_
    show Steps p.tables e below (s₁.setTop (mkF m 6 #[.val (.int p0), .unset, .unset, .unset] [(.int (9 : Int32)), (.int (p0 &&& (2147483647 : Int32)))])) _
    refine Jvm.RoadKit.iremM X0 hx rfl (hb hby at_6) rfl (by decide) ?_
    show Steps p.tables e below (s₁.setTop (mkF m 7 #[.val (.int p0), .unset, .unset, .unset] [(.int ((p0 &&& (2147483647 : Int32)) % (9 : Int32)))])) _
    rw [hp0]
    show Steps p.tables e below (s₁.setTop (mkF m 7 #[.val (.int p0), .unset, .unset, .unset] [(.int (8 : Int32))])) _
    refine XS.istoreN X0.here hx rfl (hb hby at_7) rfl (l' := #[.val (.int p0), .val (.int (8 : Int32)), .unset, .unset]) rfl ?_
    show Steps p.tables e below (s₁.setTop (mkF m 8 #[.val (.int p0), .val (.int (8 : Int32)), .unset, .unset] [])) _
    refine XS.iloadN X0.here hx rfl (hb hby at_8) rfl ?_
    show Steps p.tables e below (s₁.setTop (mkF m 9 #[.val (.int p0), .val (.int (8 : Int32)), .unset, .unset] [(.int (8 : Int32))])) _
    refine st1 _ ?_
    show Steps p.tables e below (T1.setTop (mkF m 12 #[.val (.int p0), .val (.int (8 : Int32)), .unset, .unset] [(.ref s_CONSTRUCTOR)])) _
    refine XS.astoreN X1.here hx rfl (hb hby at_12) rfl rfl (l' := #[.val (.int p0), .val (.int (8 : Int32)), .val (.ref s_CONSTRUCTOR), .unset]) rfl ?_
    show Steps p.tables e below (T1.setTop (mkF m 13 #[.val (.int p0), .val (.int (8 : Int32)), .val (.ref s_CONSTRUCTOR), .unset] [])) _
    refine XS.iloadN X1.here hx rfl (hb hby at_13) rfl ?_
    show Steps p.tables e below (T1.setTop (mkF m 14 #[.val (.int p0), .val (.int (8 : Int32)), .val (.ref s_CONSTRUCTOR), .unset] [(.int (8 : Int32))])) _
    refine XS.bipush X1.here hx rfl (hb hby at_14) ?_
    show Steps p.tables e below (T1.setTop (mkF m 16 #[.val (.int p0), .val (.int (8 : Int32)), .val (.ref s_CONSTRUCTOR), .unset] [(.int (6 : Int32)), (.int (8 : Int32))])) _
    refine XS.icmpYes X1.here hx rfl (pc0 := 16) (pc' := 23) rfl (hb hby at_16) rfl (by decide +kernel) (by decide) (by decide) ?_
    show Steps p.tables e below (T1.setTop (mkF m 23 #[.val (.int p0), .val (.int (8 : Int32)), .val (.ref s_CONSTRUCTOR), .unset] [])) _
    refine XS.iconst X1.here hx rfl (hb hby at_23) ?_
    show Steps p.tables e below (T1.setTop (mkF m 24 #[.val (.int p0), .val (.int (8 : Int32)), .val (.ref s_CONSTRUCTOR), .unset] [(.int (0 : Int32))])) _
    refine XS.istoreN X1.here hx rfl (hb hby at_24) rfl (l' := #[.val (.int p0), .val (.int (8 : Int32)), .val (.ref s_CONSTRUCTOR), .val (.int (0 : Int32))]) rfl ?_
    show Steps p.tables e below (T1.setTop (mkF m 25 #[.val (.int p0), .val (.int (8 : Int32)), .val (.ref s_CONSTRUCTOR), .val (.int (0 : Int32))] [])) _
    refine XS.aloadN X1.here hx rfl (hb hby at_25) rfl rfl ?_
    show Steps p.tables e below (T1.setTop (mkF m 26 #[.val (.int p0), .val (.int (8 : Int32)), .val (.ref s_CONSTRUCTOR), .val (.int (0 : Int32))] [(.ref s_CONSTRUCTOR)])) _
    refine st2.trans ?_
    show Steps p.tables e below (T2.setTop (mkF m 29 #[.val (.int p0), .val (.int (8 : Int32)), .val (.ref s_CONSTRUCTOR), .val (.int (0 : Int32))] [(.int (0 : Int32))])) _
    refine XS.iloadN X2.here hx rfl (hb hby at_29) rfl ?_
    show Steps p.tables e below (T2.setTop (mkF m 30 #[.val (.int p0), .val (.int (8 : Int32)), .val (.ref s_CONSTRUCTOR), .val (.int (0 : Int32))] [(.int (0 : Int32)), (.int (0 : Int32))])) _
    refine XS.icmpNo X2.here hx rfl (hb hby at_30) rfl (by decide +kernel) ?_
    show Steps p.tables e below (T2.setTop (mkF m 33 #[.val (.int p0), .val (.int (8 : Int32)), .val (.ref s_CONSTRUCTOR), .val (.int (0 : Int32))] [])) _
    refine XS.iconst X2.here hx rfl (hb hby at_33) ?_
    show Steps p.tables e below (T2.setTop (mkF m 34 #[.val (.int p0), .val (.int (8 : Int32)), .val (.ref s_CONSTRUCTOR), .val (.int (0 : Int32))] [(.int (1 : Int32))])) _
    refine XS.goto X2.here hx rfl (pc0 := 34) (pc' := 38) rfl (hb hby at_34) (by decide) (by decide) ?_
    show Steps p.tables e below (T2.setTop (mkF m 38 #[.val (.int p0), .val (.int (8 : Int32)), .val (.ref s_CONSTRUCTOR), .val (.int (0 : Int32))] [(.int (1 : Int32))])) _
    exact retN X2 hx (t := .boolean) Bd.returns (by simp) (hb hby at_38) hr
  · exact ⟨rfl, N2, e2⟩
theorem rm0 (l : Launch) (Z : State) (a0 : Array Value) (hw : ∀ d ∈ tables_1, d.before a0 Z = true) (ws : List Jvm.Cond) (h0 : Heap) (n0 : Nat) (s_NULL : Addr) (s_BITS : Addr) (s_OPAQUE : Addr) (s_CONSTRUCTOR : Addr) (s_END : Addr) (s_STRING : Addr) (s_BOOLEAN : Addr) (s_INTEGER : Addr) (s_OCTETS : Addr) (K : Ctx Z h0 s_NULL s_BITS s_OPAQUE s_CONSTRUCTOR s_END s_STRING s_BOOLEAN s_INTEGER s_OCTETS) (p0 : Int32) :
    MetFree l x (head1 (Jvm.Cond.code x code maxLocals ret :: ws) room_1) (fun a U => a = #[(.int p0)] ∧ Z.Warmed39 U.vm ∧ U.heap = h0) (fun _ _ _ _ _ => True) (fun _ U o U' => ∃ v L, o = .returned v ∧ QV (.int (1 : Int32)) h0 n0 v U'.heap L ∧ FrameEnd U o U' L room_1.cells room_1.slots) := by
  rcases own_mod9 p0 with hp0 | hp0 | hp0 | hp0 | hp0 | hp0 | hp0 | hp0 | hp0
  · exact law_k0 l Z a0 hw ws h0 n0 s_NULL s_BITS s_OPAQUE s_CONSTRUCTOR s_END s_STRING s_BOOLEAN s_INTEGER s_OCTETS K p0 hp0
  · exact law_k1 l Z a0 hw ws h0 n0 s_NULL s_BITS s_OPAQUE s_CONSTRUCTOR s_END s_STRING s_BOOLEAN s_INTEGER s_OCTETS K p0 hp0
  · exact law_k2 l Z a0 hw ws h0 n0 s_NULL s_BITS s_OPAQUE s_CONSTRUCTOR s_END s_STRING s_BOOLEAN s_INTEGER s_OCTETS K p0 hp0
  · exact law_k3 l Z a0 hw ws h0 n0 s_NULL s_BITS s_OPAQUE s_CONSTRUCTOR s_END s_STRING s_BOOLEAN s_INTEGER s_OCTETS K p0 hp0
  · exact law_k4 l Z a0 hw ws h0 n0 s_NULL s_BITS s_OPAQUE s_CONSTRUCTOR s_END s_STRING s_BOOLEAN s_INTEGER s_OCTETS K p0 hp0
  · exact law_k5 l Z a0 hw ws h0 n0 s_NULL s_BITS s_OPAQUE s_CONSTRUCTOR s_END s_STRING s_BOOLEAN s_INTEGER s_OCTETS K p0 hp0
  · exact law_k6 l Z a0 hw ws h0 n0 s_NULL s_BITS s_OPAQUE s_CONSTRUCTOR s_END s_STRING s_BOOLEAN s_INTEGER s_OCTETS K p0 hp0
  · exact law_k7 l Z a0 hw ws h0 n0 s_NULL s_BITS s_OPAQUE s_CONSTRUCTOR s_END s_STRING s_BOOLEAN s_INTEGER s_OCTETS K p0 hp0
  · exact law_k8 l Z a0 hw ws h0 n0 s_NULL s_BITS s_OPAQUE s_CONSTRUCTOR s_END s_STRING s_BOOLEAN s_INTEGER s_OCTETS K p0 hp0
set_option maxRecDepth 65536 in
set_option maxHeartbeats 40000000 in
theorem comes_1 {Post : Tables → Env → Array Value → State → Outcome → State → Prop} (hpost : ∀ tb e args s v u, (limb_1_1.after args s (.returned v) u = true ∧ limb_1_2.after args s (.returned v) u = true ∧ True) → FrameEnd s (.returned v) u (Jvm.fieldLocs frame_1_writes args s ++ Jvm.arrayLocs frame_1_arrays args s ++ Jvm.staticLocs frame_1_statics s) 0 0 → Post tb e args s (.returned v) u) :
    ArmFor flags0 classFile x code maxLocals ret World_1 tables_1 room_1 Calls_1 rest_1 Pre_1 Post := by
  intro l hfl _ _ p e ha hc hk s m args below hf hA hF happ hP
  obtain ⟨hcalls, hrest, hpre⟩ := hP
  obtain ⟨-, -, -, hnamed, -, -, -, hat⟩ := (Spec.applies_iff hf).mp happ
  obtain ⟨hg, hn⟩ := and_e (Cond.before_iff.mp (show (Jvm.Cond.and given_1 narrow_1).before args s = true from hpre))
  obtain ⟨g0, gr0⟩ := and_e hg
  have ga0 := gr0
  obtain ⟨w0, rfl⟩ : ∃ w0 : Value, args = #[w0] := by
    have hs : args.size = 1 := by simpa [Cond.value, given_1] using g0
    obtain ⟨L⟩ := args
    match L, hs with
    | [w0], _ => exact ⟨w0, rfl⟩
  have hw := fun d (hd : d ∈ tables_1) => atoms_spec (ws := Jvm.Cond.code x code maxLocals ret :: tables_1) hat d (List.mem_cons_of_mem _ hd)
  obtain ⟨p0, ei0⟩ := is_v ga0
  obtain rfl : w0 = (.int p0) := Option.some.inj ei0
  obtain ⟨hnl, hnr⟩ := and_e hn
  have n0 := hnl
  obtain ⟨hnrl, hnrr⟩ := and_e hnr
  have n1 := hnrl
  obtain ⟨hnrrl, hnrrr⟩ := and_e hnrr
  have n2 := hnrrl
  obtain ⟨hnrrrl, hnrrrr⟩ := and_e hnrrr
  have n3 := hnrrrl
  obtain ⟨hnrrrrl, hnrrrrr⟩ := and_e hnrrrr
  have n4 := hnrrrrl
  obtain ⟨hnrrrrrl, hnrrrrrr⟩ := and_e hnrrrrr
  have n5 := hnrrrrrl
  obtain ⟨hnrrrrrrl, hnrrrrrrr⟩ := and_e hnrrrrrr
  have n6 := hnrrrrrrl
  obtain ⟨hnrrrrrrrl, hnrrrrrrrr⟩ := and_e hnrrrrrrr
  have n7 := hnrrrrrrrl
  obtain ⟨hnrrrrrrrrl, hnrrrrrrrrr⟩ := and_e hnrrrrrrrr
  have n8 := hnrrrrrrrrl
  obtain ⟨hnrrrrrrrrrl, hnrrrrrrrrrr⟩ := and_e hnrrrrrrrrr
  have n9 := hnrrrrrrrrrl
  obtain ⟨hnrrrrrrrrrrl, hnrrrrrrrrrrr⟩ := and_e hnrrrrrrrrrr
  have n10 := hnrrrrrrrrrrl
  obtain ⟨hnrrrrrrrrrrrl, hnrrrrrrrrrrrr⟩ := and_e hnrrrrrrrrrrr
  have n11 := hnrrrrrrrrrrrl
  obtain ⟨hnrrrrrrrrrrrrl, hnrrrrrrrrrrrrr⟩ := and_e hnrrrrrrrrrrrr
  have n12 := hnrrrrrrrrrrrrl
  obtain ⟨hnrrrrrrrrrrrrrl, hnrrrrrrrrrrrrrr⟩ := and_e hnrrrrrrrrrrrrr
  have n13 := hnrrrrrrrrrrrrrl
  obtain ⟨hnrrrrrrrrrrrrrrl, hnrrrrrrrrrrrrrrr⟩ := and_e hnrrrrrrrrrrrrrr
  have n14 := hnrrrrrrrrrrrrrrl
  obtain ⟨hnrrrrrrrrrrrrrrrl, hnrrrrrrrrrrrrrrrr⟩ := and_e hnrrrrrrrrrrrrrrr
  have n15 := hnrrrrrrrrrrrrrrrl
  obtain ⟨hnrrrrrrrrrrrrrrrrl, hnrrrrrrrrrrrrrrrrr⟩ := and_e hnrrrrrrrrrrrrrrrr
  have n16 := hnrrrrrrrrrrrrrrrrl
  have n17 := hnrrrrrrrrrrrrrrrrr
  obtain ⟨s_NULL, ev_NULL⟩ := exa_v n0
  have E_NULL := Exa.start ev_NULL n0
  have S_NULL := Sta.start ev_NULL (Or.inr ⟨(hw _ (List.mem_of_getElem? (i := 6) rfl)), (hw _ (List.mem_of_getElem? (i := 7) rfl))⟩)
  obtain ⟨s_BITS, ev_BITS⟩ := exa_v n1
  have E_BITS := Exa.start ev_BITS n1
  have S_BITS := Sta.start ev_BITS (Or.inr ⟨(hw _ (List.mem_of_getElem? (i := 6) rfl)), (hw _ (List.mem_of_getElem? (i := 14) rfl))⟩)
  obtain ⟨s_OPAQUE, ev_OPAQUE⟩ := exa_v n4
  have E_OPAQUE := Exa.start ev_OPAQUE n4
  have S_OPAQUE := Sta.start ev_OPAQUE (Or.inr ⟨(hw _ (List.mem_of_getElem? (i := 6) rfl)), (hw _ (List.mem_of_getElem? (i := 16) rfl))⟩)
  obtain ⟨s_CONSTRUCTOR, ev_CONSTRUCTOR⟩ := exa_v n6
  have E_CONSTRUCTOR := Exa.start ev_CONSTRUCTOR n6
  have S_CONSTRUCTOR := Sta.start ev_CONSTRUCTOR (Or.inr ⟨(hw _ (List.mem_of_getElem? (i := 6) rfl)), (hw _ (List.mem_of_getElem? (i := 18) rfl))⟩)
  obtain ⟨s_BOOLEAN, ev_BOOLEAN⟩ := exa_v n8
  have E_BOOLEAN := Exa.start ev_BOOLEAN n8
  have S_BOOLEAN := Sta.start ev_BOOLEAN (Or.inr ⟨(hw _ (List.mem_of_getElem? (i := 6) rfl)), (hw _ (List.mem_of_getElem? (i := 20) rfl))⟩)
  obtain ⟨s_STRING, ev_STRING⟩ := exa_v n10
  have E_STRING := Exa.start ev_STRING n10
  have S_STRING := Sta.start ev_STRING (Or.inr ⟨(hw _ (List.mem_of_getElem? (i := 6) rfl)), (hw _ (List.mem_of_getElem? (i := 22) rfl))⟩)
  obtain ⟨s_END, ev_END⟩ := exa_v n12
  have E_END := Exa.start ev_END n12
  have S_END := Sta.start ev_END (Or.inr ⟨(hw _ (List.mem_of_getElem? (i := 6) rfl)), (hw _ (List.mem_of_getElem? (i := 24) rfl))⟩)
  obtain ⟨s_INTEGER, ev_INTEGER⟩ := exa_v n14
  have E_INTEGER := Exa.start ev_INTEGER n14
  have S_INTEGER := Sta.start ev_INTEGER (Or.inr ⟨(hw _ (List.mem_of_getElem? (i := 6) rfl)), (hw _ (List.mem_of_getElem? (i := 27) rfl))⟩)
  obtain ⟨s_OCTETS, ev_OCTETS⟩ := exa_v n16
  have E_OCTETS := Exa.start ev_OCTETS n16
  have S_OCTETS := Sta.start ev_OCTETS (Or.inr ⟨(hw _ (List.mem_of_getElem? (i := 6) rfl)), (hw _ (List.mem_of_getElem? (i := 31) rfl))⟩)
  have o_NULL_ordinal := (fld_at ev_NULL).symm.trans (own_eqI n2)
  have F_NULL_ordinal := Fld.start o_NULL_ordinal
  have o_BITS_ordinal := (fld_at ev_BITS).symm.trans (own_eqI n3)
  have F_BITS_ordinal := Fld.start o_BITS_ordinal
  have o_OPAQUE_ordinal := (fld_at ev_OPAQUE).symm.trans (own_eqI n5)
  have F_OPAQUE_ordinal := Fld.start o_OPAQUE_ordinal
  have o_CONSTRUCTOR_ordinal := (fld_at ev_CONSTRUCTOR).symm.trans (own_eqI n7)
  have F_CONSTRUCTOR_ordinal := Fld.start o_CONSTRUCTOR_ordinal
  have o_BOOLEAN_ordinal := (fld_at ev_BOOLEAN).symm.trans (own_eqI n9)
  have F_BOOLEAN_ordinal := Fld.start o_BOOLEAN_ordinal
  have o_STRING_ordinal := (fld_at ev_STRING).symm.trans (own_eqI n11)
  have F_STRING_ordinal := Fld.start o_STRING_ordinal
  have o_END_ordinal := (fld_at ev_END).symm.trans (own_eqI n13)
  have F_END_ordinal := Fld.start o_END_ordinal
  have o_INTEGER_ordinal := (fld_at ev_INTEGER).symm.trans (own_eqI n15)
  have F_INTEGER_ordinal := Fld.start o_INTEGER_ordinal
  have o_OCTETS_ordinal := (fld_at ev_OCTETS).symm.trans (own_eqI n17)
  have F_OCTETS_ordinal := Fld.start o_OCTETS_ordinal
  have ne_BITS_NULL : s_BITS ≠ s_NULL := own_ne o_BITS_ordinal o_NULL_ordinal (by decide)
  have ne_NULL_OPAQUE : s_NULL ≠ s_OPAQUE := own_ne o_NULL_ordinal o_OPAQUE_ordinal (by decide)
  have ne_CONSTRUCTOR_NULL : s_CONSTRUCTOR ≠ s_NULL := own_ne o_CONSTRUCTOR_ordinal o_NULL_ordinal (by decide)
  have ne_BITS_END : s_BITS ≠ s_END := own_ne o_BITS_ordinal o_END_ordinal (by decide)
  have ne_END_OPAQUE : s_END ≠ s_OPAQUE := own_ne o_END_ordinal o_OPAQUE_ordinal (by decide)
  have ne_CONSTRUCTOR_END : s_CONSTRUCTOR ≠ s_END := own_ne o_CONSTRUCTOR_ordinal o_END_ordinal (by decide)
  have ne_BITS_STRING : s_BITS ≠ s_STRING := own_ne o_BITS_ordinal o_STRING_ordinal (by decide)
  have ne_OPAQUE_STRING : s_OPAQUE ≠ s_STRING := own_ne o_OPAQUE_ordinal o_STRING_ordinal (by decide)
  have ne_CONSTRUCTOR_STRING : s_CONSTRUCTOR ≠ s_STRING := own_ne o_CONSTRUCTOR_ordinal o_STRING_ordinal (by decide)
  have ne_BITS_BOOLEAN : s_BITS ≠ s_BOOLEAN := own_ne o_BITS_ordinal o_BOOLEAN_ordinal (by decide)
  have ne_BOOLEAN_OPAQUE : s_BOOLEAN ≠ s_OPAQUE := own_ne o_BOOLEAN_ordinal o_OPAQUE_ordinal (by decide)
  have ne_BOOLEAN_CONSTRUCTOR : s_BOOLEAN ≠ s_CONSTRUCTOR := own_ne o_BOOLEAN_ordinal o_CONSTRUCTOR_ordinal (by decide)
  have ne_BITS_INTEGER : s_BITS ≠ s_INTEGER := own_ne o_BITS_ordinal o_INTEGER_ordinal (by decide)
  have ne_INTEGER_OPAQUE : s_INTEGER ≠ s_OPAQUE := own_ne o_INTEGER_ordinal o_OPAQUE_ordinal (by decide)
  have ne_CONSTRUCTOR_INTEGER : s_CONSTRUCTOR ≠ s_INTEGER := own_ne o_CONSTRUCTOR_ordinal o_INTEGER_ordinal (by decide)
  have ne_BITS_OCTETS : s_BITS ≠ s_OCTETS := own_ne o_BITS_ordinal o_OCTETS_ordinal (by decide)
  have ne_OCTETS_OPAQUE : s_OCTETS ≠ s_OPAQUE := own_ne o_OCTETS_ordinal o_OPAQUE_ordinal (by decide)
  have ne_CONSTRUCTOR_OCTETS : s_CONSTRUCTOR ≠ s_OCTETS := own_ne o_CONSTRUCTOR_ordinal o_OCTETS_ordinal (by decide)
  have ne_BITS_OPAQUE : s_BITS ≠ s_OPAQUE := own_ne o_BITS_ordinal o_OPAQUE_ordinal (by decide)
  have ne_BITS_CONSTRUCTOR : s_BITS ≠ s_CONSTRUCTOR := own_ne o_BITS_ordinal o_CONSTRUCTOR_ordinal (by decide)
  have ne_CONSTRUCTOR_OPAQUE : s_CONSTRUCTOR ≠ s_OPAQUE := own_ne o_CONSTRUCTOR_ordinal o_OPAQUE_ordinal (by decide)
  obtain ⟨n, o, h1, h2, h3, _, L, rfl, ⟨rfl, N, _⟩, hq⟩ := rm0 l s _ hw tables_1 s.heap s.heap.size s_NULL s_BITS s_OPAQUE s_CONSTRUCTOR s_END s_STRING s_BOOLEAN s_INTEGER s_OCTETS ⟨S_NULL, S_BITS, ne_BITS_NULL, S_OPAQUE, ne_NULL_OPAQUE, S_CONSTRUCTOR, ne_CONSTRUCTOR_NULL, E_NULL, S_END, ne_BITS_END, ne_END_OPAQUE, ne_CONSTRUCTOR_END, E_END, S_STRING, ne_BITS_STRING, ne_OPAQUE_STRING, ne_CONSTRUCTOR_STRING, E_STRING, S_BOOLEAN, ne_BITS_BOOLEAN, ne_BOOLEAN_OPAQUE, ne_BOOLEAN_CONSTRUCTOR, E_BOOLEAN, S_INTEGER, ne_BITS_INTEGER, ne_INTEGER_OPAQUE, ne_CONSTRUCTOR_INTEGER, E_INTEGER, S_OCTETS, ne_BITS_OCTETS, ne_OCTETS_OPAQUE, ne_CONSTRUCTOR_OCTETS, E_OCTETS, E_BITS, ne_BITS_OPAQUE, E_OPAQUE, ne_BITS_CONSTRUCTOR, ne_CONSTRUCTOR_OPAQUE, E_CONSTRUCTOR⟩ p0 p e ha hc hk s m _ below hf ((Spec.applies_iff_loose hf).mp happ).1 ⟨rfl, State.Warmed39.refl s, rfl⟩ trivial
  refine ⟨n, _, h1, h2, h3, hpost _ _ _ _ _ _ ⟨Cond.after_iff.mpr rfl, Cond.after_iff.mpr (eq_i res_at (Term.int_eval (1)) rfl), trivial⟩ ⟨hq.1, hq.2.1, (hq.2.2.sift fun y hy => Or.inr (N y hy)).mono (by decide) (by decide)⟩⟩
theorem main_1_1 : Claimed_1_1 := comes_1 fun _ _ _ _ _ _ h hF => ⟨h.1, hF⟩
theorem main_1_2 : Claimed_1_2 := comes_1 fun _ _ _ _ _ _ h hF => ⟨h.2.1, hF⟩
end Jvm.Pilot.@@N@@
namespace Jvm.Pilot.@@N@@
open Jvm Jvm.ClassFile Sem Op Lib Jvm.Free Jvm.Stand Jvm.Pilot.@@N@@.Jvm.D
/-! MADE BY PROGRAM (witnessworld.py) out of the Statement's table words and the real class files: 10 classes; the members and pool entries that the words name. The judged class is class 1, her method 2. -/
namespace start1
open Jvm.ClassFile
def u (s : String) : CpInfo := .utf8 (stringToUtf16 s)
/-- a pool by its gaps: so many unusable entries, then the entry; so many at the end -/
def gap : Nat → List CpInfo → List CpInfo
  | 0, r => r
  | n + 1, r => .unusable :: gap n r
def poolList (es : List (Nat × CpInfo)) (last : Nat) : List CpInfo := es.foldr (fun e r => gap e.1 (e.2 :: r)) (gap last [])
def pool (es : List (Nat × CpInfo)) (last : Nat) : Array CpInfo := ⟨poolList es last⟩
def fileOf (pool : Array CpInfo) (this : Nat) (attrs : Array Attribute := #[]) (ms : Array MethodInfo := #[]) (fl : Nat := 33) (sup : Nat := 0) (ifs : Array Nat := #[]) (fds : Array FieldInfo := #[]) : ClassFile where
  minorVersion := 0
  majorVersion := 65
  constantPool := pool
  accessFlags := fl
  thisClass := this
  superClass := sup
  interfaces := ifs
  fields := fds
  methods := ms
  attributes := attrs
def plain (name : String) (sup : Option ClassId) : Class where
  name := name
  kind := .ordinary
  loader := none
  accessFlags := 33
  super := sup
  interfaces := #[]
  cf := none
  fields := #[]
  methods := #[]
  instanceTypes := #[]
  staticTypes := #[]
  resolved := #[]
  callSites := []
  init := .initialized
  statics := none
  mirror := none

def pool0 : Array CpInfo := pool [(5, u "<init>"), (0, u "()V"), (1, .class_ 10), (1, u "java/lang/Object")] 113

def k0m0 : Method := { name := "<init>", desc := "()V", sig := { parameters := [], returnType := none }, accessFlags := 1, code := none }
/-- java/lang/Object -/
def k0 : Class := { plain "java/lang/Object" none with
  accessFlags := 33
  interfaces := #[]
  cf := some (fileOf pool0 8 #[] #[{ accessFlags := 1, nameIndex := 5, descriptorIndex := 6, attributes := #[] }] 33 0 #[] #[])
  fields := #[]
  methods := #[k0m0]
  instanceTypes := #[]
  staticTypes := #[]
  resolved := Array.replicate 124 none
  statics := none }

def pool1 : Array CpInfo := pool [(2, .class_ 4), (1, u "java/lang/Object"), (0, u "<init>"), (0, u "()V"), (0, .fieldref 8 9), (0, .class_ 10), (0, .nameAndType 11 12), (0, u "com/example/plainwire/plainwire/rfc806/Element$Kind"), (0, u "NULL"), (0, u "Lcom/example/plainwire/plainwire/rfc806/Element$Kind;"), (0, .fieldref 8 14), (0, .nameAndType 15 12), (0, u "END"), (0, .fieldref 8 17), (0, .nameAndType 18 12), (0, u "STRING"), (0, .fieldref 8 20), (0, .nameAndType 21 12), (0, u "BOOLEAN"), (0, .fieldref 8 23), (0, .nameAndType 24 12), (0, u "INTEGER"), (0, .fieldref 8 26), (0, .nameAndType 27 12), (0, u "OCTETS"), (0, .fieldref 8 29), (0, .nameAndType 30 12), (0, u "BITS"), (0, .fieldref 8 32), (0, .nameAndType 33 12), (0, u "OPAQUE"), (0, .fieldref 8 35), (0, .nameAndType 36 12), (0, u "CONSTRUCTOR"), (0, .integer 2147483647), (0, .methodref 39 40), (0, .class_ 41), (0, .nameAndType 42 43), (0, u "com/example/plainwire/plainwire/rfc806/KindBarePinLaw"), (0, u "pick"), (0, u "(I)Lcom/example/plainwire/plainwire/rfc806/Element$Kind;"), (0, .methodref 8 45), (0, .nameAndType 46 47), (0, u "bare"), (0, u "()Z"), (3, u "law"), (0, u "(I)Z")] 6

def k1m0 : Method := { name := "<init>", desc := "()V", sig := { parameters := [], returnType := none }, accessFlags := 1, code := none }
def k1c1 : Code := { maxStack := 2, maxLocals := 1, code := method_2_code, exceptionTable := #[], attributes := #[] }
def k1m1 : Method := { name := "pick", desc := "(I)Lcom/example/plainwire/plainwire/rfc806/Element$Kind;", sig := { parameters := [.int], returnType := some (.object "com/example/plainwire/plainwire/rfc806/Element$Kind") }, accessFlags := 10, code := some k1c1 }
def k1c2 : Code := { maxStack := 2, maxLocals := 4, code := code, exceptionTable := #[], attributes := #[] }
def k1m2 : Method := { name := "law", desc := "(I)Z", sig := { parameters := [.int], returnType := some .boolean }, accessFlags := 9, code := some k1c2 }
/-- com/example/plainwire/plainwire/rfc806/KindBarePinLaw -/
def k1 : Class := { plain "com/example/plainwire/plainwire/rfc806/KindBarePinLaw" (some 0) with
  accessFlags := 49
  interfaces := #[]
  cf := some (fileOf pool1 39 #[] #[{ accessFlags := 1, nameIndex := 5, descriptorIndex := 6, attributes := #[] }, { accessFlags := 10, nameIndex := 42, descriptorIndex := 43, attributes := #[] }, { accessFlags := 9, nameIndex := 51, descriptorIndex := 52, attributes := #[] }] 49 2 #[] #[])
  fields := #[]
  methods := #[k1m0, k1m1, k1m2]
  instanceTypes := #[]
  staticTypes := #[]
  resolved := Array.replicate 59 none
  statics := none }

def pool2 : Array CpInfo := pool [(1, .class_ 2), (0, u "java/lang/constant/Constable"), (0, .class_ 4), (0, u "java/lang/Object")] 6

/-- java/lang/constant/Constable -/
def k2 : Class := { plain "java/lang/constant/Constable" (some 0) with
  accessFlags := 1537
  interfaces := #[]
  cf := some (fileOf pool2 1 #[] #[] 1537 3 #[] #[])
  fields := #[]
  methods := #[]
  instanceTypes := #[]
  staticTypes := #[]
  resolved := Array.replicate 11 none
  statics := none }

def pool3 : Array CpInfo := pool [(1, .class_ 2), (0, u "java/lang/Comparable"), (0, .class_ 4), (0, u "java/lang/Object")] 7

/-- java/lang/Comparable -/
def k3 : Class := { plain "java/lang/Comparable" (some 0) with
  accessFlags := 1537
  interfaces := #[]
  cf := some (fileOf pool3 1 #[] #[] 1537 3 #[] #[])
  fields := #[]
  methods := #[]
  instanceTypes := #[]
  staticTypes := #[]
  resolved := Array.replicate 12 none
  statics := none }

def pool4 : Array CpInfo := pool [(1, .class_ 2), (0, u "java/io/Serializable"), (0, .class_ 4), (0, u "java/lang/Object")] 2

/-- java/io/Serializable -/
def k4 : Class := { plain "java/io/Serializable" (some 0) with
  accessFlags := 1537
  interfaces := #[]
  cf := some (fileOf pool4 1 #[] #[] 1537 3 #[] #[])
  fields := #[]
  methods := #[]
  instanceTypes := #[]
  staticTypes := #[]
  resolved := Array.replicate 7 none
  statics := none }

def pool5 : Array CpInfo := pool [(2, .class_ 4), (1, u "java/lang/Enum"), (0, u "name"), (0, u "Ljava/lang/String;"), (2, u "ordinal"), (0, u "I"), (1, .class_ 14), (1, u "java/lang/Object"), (4, u "hash"), (86, .class_ 108), (1, u "java/lang/Enum$EnumDesc"), (2, .class_ 112), (0, u "java/lang/constant/Constable"), (0, .class_ 114), (0, u "java/lang/Comparable"), (0, .class_ 116), (0, u "java/io/Serializable")] 87

/-- java/lang/Enum -/
def k5 : Class := { plain "java/lang/Enum" (some 0) with
  accessFlags := 1057
  interfaces := #[2, 3, 4]
  cf := some (fileOf pool5 2 #[.nestMembers #[106]] #[] 1057 12 #[111, 113, 115] #[{ accessFlags := 18, nameIndex := 5, descriptorIndex := 6, attributes := #[] }, { accessFlags := 18, nameIndex := 9, descriptorIndex := 10, attributes := #[] }, { accessFlags := 2, nameIndex := 19, descriptorIndex := 10, attributes := #[] }])
  fields := #[{ name := "name", type := (.object "java/lang/String"), accessFlags := 18, slot := 0, constantValue := 0 }, { name := "ordinal", type := .int, accessFlags := 18, slot := 1, constantValue := 0 }, { name := "hash", type := .int, accessFlags := 2, slot := 2, constantValue := 0 }]
  methods := #[]
  instanceTypes := #[(.object "java/lang/String"), .int, .int]
  staticTypes := #[]
  resolved := Array.replicate 204 none
  statics := none }

def pool6 : Array CpInfo := pool [(1, .class_ 2), (0, u "com/example/plainwire/plainwire/rfc806/Element$Kind"), (2, u "NULL"), (0, u "Lcom/example/plainwire/plainwire/rfc806/Element$Kind;"), (2, u "END"), (2, u "STRING"), (2, u "BOOLEAN"), (2, u "INTEGER"), (2, u "OCTETS"), (0, .fieldref 1 23), (0, .nameAndType 24 6), (0, u "BITS"), (0, .fieldref 1 26), (0, .nameAndType 27 6), (0, u "OPAQUE"), (0, .fieldref 1 29), (0, .nameAndType 30 6), (0, u "CONSTRUCTOR"), (2, u "$VALUES"), (0, u "[Lcom/example/plainwire/plainwire/rfc806/Element$Kind;"), (6, .class_ 43), (1, u "java/lang/Enum"), (27, u "bare"), (0, u "()Z"), (6, .class_ 80), (0, u "com/example/plainwire/plainwire/rfc806/Element")] 2

def k6c0 : Code := { maxStack := 2, maxLocals := 1, code := prog_102_method_4_code, exceptionTable := #[], attributes := #[] }
def k6m0 : Method := { name := "bare", desc := "()Z", sig := { parameters := [], returnType := some .boolean }, accessFlags := 0, code := some k6c0 }
/-- com/example/plainwire/plainwire/rfc806/Element$Kind -/
def k6 : Class := { plain "com/example/plainwire/plainwire/rfc806/Element$Kind" (some 5) with
  accessFlags := 16432
  interfaces := #[]
  cf := some (fileOf pool6 1 #[.nestHost 79] #[{ accessFlags := 0, nameIndex := 71, descriptorIndex := 72, attributes := #[] }] 16432 41 #[] #[{ accessFlags := 16409, nameIndex := 5, descriptorIndex := 6, attributes := #[] }, { accessFlags := 16409, nameIndex := 9, descriptorIndex := 6, attributes := #[] }, { accessFlags := 16409, nameIndex := 12, descriptorIndex := 6, attributes := #[] }, { accessFlags := 16409, nameIndex := 15, descriptorIndex := 6, attributes := #[] }, { accessFlags := 16409, nameIndex := 18, descriptorIndex := 6, attributes := #[] }, { accessFlags := 16409, nameIndex := 21, descriptorIndex := 6, attributes := #[] }, { accessFlags := 16409, nameIndex := 24, descriptorIndex := 6, attributes := #[] }, { accessFlags := 16409, nameIndex := 27, descriptorIndex := 6, attributes := #[] }, { accessFlags := 16409, nameIndex := 30, descriptorIndex := 6, attributes := #[] }, { accessFlags := 4122, nameIndex := 33, descriptorIndex := 34, attributes := #[] }])
  fields := #[{ name := "NULL", type := (.object "com/example/plainwire/plainwire/rfc806/Element$Kind"), accessFlags := 16409, slot := 0, constantValue := 0 }, { name := "END", type := (.object "com/example/plainwire/plainwire/rfc806/Element$Kind"), accessFlags := 16409, slot := 1, constantValue := 0 }, { name := "STRING", type := (.object "com/example/plainwire/plainwire/rfc806/Element$Kind"), accessFlags := 16409, slot := 2, constantValue := 0 }, { name := "BOOLEAN", type := (.object "com/example/plainwire/plainwire/rfc806/Element$Kind"), accessFlags := 16409, slot := 3, constantValue := 0 }, { name := "INTEGER", type := (.object "com/example/plainwire/plainwire/rfc806/Element$Kind"), accessFlags := 16409, slot := 4, constantValue := 0 }, { name := "OCTETS", type := (.object "com/example/plainwire/plainwire/rfc806/Element$Kind"), accessFlags := 16409, slot := 5, constantValue := 0 }, { name := "BITS", type := (.object "com/example/plainwire/plainwire/rfc806/Element$Kind"), accessFlags := 16409, slot := 6, constantValue := 0 }, { name := "OPAQUE", type := (.object "com/example/plainwire/plainwire/rfc806/Element$Kind"), accessFlags := 16409, slot := 7, constantValue := 0 }, { name := "CONSTRUCTOR", type := (.object "com/example/plainwire/plainwire/rfc806/Element$Kind"), accessFlags := 16409, slot := 8, constantValue := 0 }, { name := "$VALUES", type := (.array (.object "com/example/plainwire/plainwire/rfc806/Element$Kind")), accessFlags := 4122, slot := 9, constantValue := 0 }]
  methods := #[k6m0]
  instanceTypes := #[(.object "java/lang/String"), .int, .int]
  staticTypes := #[(.object "com/example/plainwire/plainwire/rfc806/Element$Kind"), (.object "com/example/plainwire/plainwire/rfc806/Element$Kind"), (.object "com/example/plainwire/plainwire/rfc806/Element$Kind"), (.object "com/example/plainwire/plainwire/rfc806/Element$Kind"), (.object "com/example/plainwire/plainwire/rfc806/Element$Kind"), (.object "com/example/plainwire/plainwire/rfc806/Element$Kind"), (.object "com/example/plainwire/plainwire/rfc806/Element$Kind"), (.object "com/example/plainwire/plainwire/rfc806/Element$Kind"), (.object "com/example/plainwire/plainwire/rfc806/Element$Kind"), (.array (.object "com/example/plainwire/plainwire/rfc806/Element$Kind"))]
  resolved := Array.replicate 83 none
  statics := some 0 }

def pool7 : Array CpInfo := pool [(1, u "java/lang/Cloneable"), (0, .class_ 1), (0, u "java/lang/Object"), (0, .class_ 3)] 3

/-- java/lang/Cloneable -/
def k7 : Class := { plain "java/lang/Cloneable" (some 0) with
  accessFlags := 1537
  interfaces := #[]
  cf := some (fileOf pool7 2 #[] #[] 1537 4 #[] #[])
  fields := #[]
  methods := #[]
  instanceTypes := #[]
  staticTypes := #[]
  resolved := Array.replicate 8 none
  statics := none }

/-- the primitive byte -/
def k8 : Class := { plain "byte" none with kind := .primitive 'B', accessFlags := 0x411 }
/-- [B -/
def k9 : Class := { plain "[B" (some 0) with kind := .array 8 .byte, interfaces := #[7, 4], accessFlags := 1041 }

def heap : Heap := #[{ cls := 6, slots := #[.ref 1, .ref 7, .ref 6, .ref 5, .ref 8, .ref 9, .ref 2, .ref 3, .ref 4, .null], vm := .statics 6 },
  { cls := 6, slots := #[.null, .int 0, .int 0], vm := .none },
  { cls := 6, slots := #[.null, .int 6, .int 0], vm := .none },
  { cls := 6, slots := #[.null, .int 7, .int 0], vm := .none },
  { cls := 6, slots := #[.null, .int 8, .int 0], vm := .none },
  { cls := 6, slots := #[.null, .int 3, .int 0], vm := .none },
  { cls := 6, slots := #[.null, .int 2, .int 0], vm := .none },
  { cls := 6, slots := #[.null, .int 1, .int 0], vm := .none },
  { cls := 6, slots := #[.null, .int 4, .int 0], vm := .none },
  { cls := 6, slots := #[.null, .int 5, .int 0], vm := .none }]
def classes : Array Class := #[k0, k1, k2, k3, k4, k5, k6, k7, k8, k9]
def interned : List (Array UInt16 × Addr) := []
def slotsUsed : Nat := 37
def theMethod : MethodId := ⟨1, 2⟩
def args0 : Array Value := #[.int 5]
def aboutOver (below : List Frame) : State where
  vm := { classes := classes, interned := interned.toArray }
  heap := heap
  slotsUsed := slotsUsed
  threads := #[{ frames := .invoking theMethod args0 :: below }]
def below0 : List Frame := [.native { method := ⟨0, 0⟩, args := #[] }]
def about1 : State := aboutOver below0
def p0 : Program := .bare "" "" ""
def e0 : Env := launch0.env 0 0 0
theorem w_frames : about1.frames = Frame.invoking theMethod args0 :: below0 := rfl
set_option maxRecDepth 65536 in
theorem w_args : argsFit about1.vm theMethod args0 = true := by decide +kernel
set_option maxRecDepth 65536 in
theorem w_heap : heapFits about1 = true := by decide +kernel
set_option maxRecDepth 65536 in
theorem w_runnable : about1.curStatus? = some .runnable := by decide +kernel
set_option maxRecDepth 65536 in
theorem w_alone : about1.alone = true := by decide +kernel
set_option maxRecDepth 65536 in
theorem w_named : about1.methodNamed? x = some theMethod := by decide +kernel
set_option maxRecDepth 65536 in
theorem w_hears : about1.hears theMethod below0 = true := by decide +kernel
set_option maxRecDepth 65536 in
theorem w_ripe : about1.ripe theMethod args0 below0 = true := by decide +kernel
theorem w_running : about1.status = .running := rfl
set_option maxRecDepth 65536 in
theorem w_room : about1.hasRoom e0.platform room_1 = true :=
  launch0.hasRoom_least _ room_1 (by decide +kernel) (by decide +kernel) (by decide +kernel) (by decide +kernel) (by decide +kernel) (by decide +kernel)
theorem allAtoms_all (ts : List Jvm.Cond) (a : Array Jvm.Value) (st : Jvm.State) : (allAtoms ts).before a st = ts.all (fun c => c.before a st) := by
  induction ts with
  | nil => rfl
  | cons c t ih =>
    show (Jvm.Cond.and c (allAtoms t)).before a st = _
    rw [Jvm.Cond.before_and, ih, List.all_cons]
def words1 : List Jvm.Cond := Jvm.Cond.code x code maxLocals ret :: tables_1
/-- a 'code' word, met by the world's own term for the bytes: nothing is compared byte by byte -/
theorem code_word {y : MethodName} {bytes : ByteArray} {mx : Nat} {rt : Option FieldType} {a : Array Value} {s : State} {m : MethodId} {meth : Method} {c : Code} (h1 : s.methodNamed? y = some m) (h2 : s.vm.method? m = some meth) (h3 : meth.code = some c) (h4 : c.code = bytes)
    (h5 : (c.maxLocals == mx && c.exceptionTable.isEmpty && decide (c.maxStack ≤ mostOperands) && decide (meth.sig.returnType = rt) && !meth.locks && decide (parseMethodDescriptor y.desc = some meth.sig)) = true) : (Jvm.Cond.code y bytes mx rt).before a s = true := by
  simp only [Bool.and_eq_true, beq_iff_eq, Bool.not_eq_true', decide_eq_true_eq] at h5
  obtain ⟨⟨⟨⟨⟨g1, g2⟩, g3⟩, g4⟩, g5⟩, g6⟩ := h5
  simp [Cond.before, Cond.holds, Cond.value, h1, h2, h3, h4, g1, g2, g3, g4, g5, g6]
def isCode : Jvm.Cond → Bool
  | .code _ _ _ _ => true
  | _ => false
theorem all_split {L : List Jvm.Cond} {P : Jvm.Cond → Bool} (h1 : L.all (fun c => isCode c || P c) = true) (h2 : ∀ c ∈ L.filter isCode, P c = true) : L.all P = true := by
  refine List.all_eq_true.mpr fun c hc => ?_
  have h := List.all_eq_true.mp h1 c hc
  rcases Bool.eq_false_or_eq_true (isCode c) with hi | hi
  · exact h2 c (List.mem_filter.mpr ⟨hc, hi⟩)
  · simpa [hi] using h
set_option maxRecDepth 65536 in
theorem w_c0 : (Jvm.Cond.code x code maxLocals ret).before args0 about1 = true := code_word (m := ⟨1, 2⟩) (meth := k1m2) (c := k1c2) (by decide +kernel) rfl rfl rfl (by decide +kernel)
set_option maxRecDepth 65536 in
theorem w_c1 : (Jvm.Cond.code ({ cls := "com/example/plainwire/plainwire/rfc806/KindBarePinLaw", name := "pick", desc := "(I)Lcom/example/plainwire/plainwire/rfc806/Element$Kind;" } : Jvm.MethodName) method_2_code (1 : Nat) (Option.some (Jvm.ClassFile.FieldType.object "com/example/plainwire/plainwire/rfc806/Element$Kind"))).before args0 about1 = true := code_word (m := ⟨1, 1⟩) (meth := k1m1) (c := k1c1) (by decide +kernel) rfl rfl rfl (by decide +kernel)
set_option maxRecDepth 65536 in
theorem w_c2 : (Jvm.Cond.code ({ cls := "com/example/plainwire/plainwire/rfc806/Element$Kind", name := "bare", desc := "()Z" } : Jvm.MethodName) prog_102_method_4_code (1 : Nat) (Option.some Jvm.ClassFile.FieldType.boolean)).before args0 about1 = true := code_word (m := ⟨6, 0⟩) (meth := k6m0) (c := k6c0) (by decide +kernel) rfl rfl rfl (by decide +kernel)
def codes1 : List Jvm.Cond := [Jvm.Cond.code x code maxLocals ret, Jvm.Cond.code ({ cls := "com/example/plainwire/plainwire/rfc806/KindBarePinLaw", name := "pick", desc := "(I)Lcom/example/plainwire/plainwire/rfc806/Element$Kind;" } : Jvm.MethodName) method_2_code (1 : Nat) (Option.some (Jvm.ClassFile.FieldType.object "com/example/plainwire/plainwire/rfc806/Element$Kind")), Jvm.Cond.code ({ cls := "com/example/plainwire/plainwire/rfc806/Element$Kind", name := "bare", desc := "()Z" } : Jvm.MethodName) prog_102_method_4_code (1 : Nat) (Option.some Jvm.ClassFile.FieldType.boolean)]
set_option maxRecDepth 65536 in
theorem codes_eq : words1.filter isCode = codes1 := rfl
theorem w_codes : ∀ c ∈ words1.filter isCode, c.before args0 about1 = true := by
  rw [codes_eq]
  intro c hc
  simp only [codes1, List.mem_cons, List.not_mem_nil, or_false] at hc
  rcases hc with rfl | rfl | rfl
  · exact w_c0
  · exact w_c1
  · exact w_c2
set_option maxRecDepth 65536 in
theorem w_t1 : (words1.take 24).all (fun c => isCode c || c.before args0 about1) = true := by decide +kernel
set_option maxRecDepth 65536 in
theorem w_t2 : (words1.drop 24).all (fun c => isCode c || c.before args0 about1) = true := by decide +kernel
theorem w_tables : (allAtoms (Jvm.Cond.code x code maxLocals ret :: tables_1)).before args0 about1 = true := by
  rw [allAtoms_all]
  show words1.all (fun c => c.before args0 about1) = true
  refine all_split ?_ w_codes
  rw [← List.take_append_drop 24 words1, List.all_append, w_t1, w_t2]
  rfl
set_option maxRecDepth 65536 in
theorem w_case : (Jvm.Cond.and given_1 narrow_1).before args0 about1 = true := by decide +kernel
theorem w_applies : (headSpec (Jvm.Cond.code x code maxLocals ret :: tables_1) room_1).applies x e0.platform about1 = true :=
  (Spec.applies_iff w_frames).mpr ⟨w_running, w_runnable, w_alone, w_named, w_hears, w_ripe, w_room, w_tables⟩
theorem atStart : AtStart classFile x code maxLocals ret World_1 tables_1 room_1 Calls_1 rest_1 Pre_1 launch0 p0 e0 about1 theMethod args0 below0 :=
  ⟨lists_1, trivial, launch0.admits_env _ _ _, launch0.least_env, fairChoices_fair.cas, fairChoices_fair.clock, w_frames, w_args, w_heap, w_applies, trivial, trivial, w_case⟩
end start1
theorem witness_1 : WitnessClaimed_1 := ⟨start1.p0, start1.e0, start1.about1, start1.theMethod, start1.args0, start1.below0, start1.atStart⟩
end Jvm.Pilot.@@N@@
