import JvmDerived
import JvmDerived.Pilot.@@N@@Statement
import JvmDerived.Pilot.@@N@@Code
set_option linter.unusedVariables false
set_option linter.unusedSimpArgs false
@@BLOCK:NumsL.lean.txt@@
namespace Jvm.Pilot.@@N@@
open Jvm Jvm.ClassFile Sem Op Lib Jvm.Free Jvm.Stand Jvm.LawKit Jvm.RoadKit Bundle Jvm.Pilot.@@N@@.Jvm.D
/-- a term that the case says equals an int is worth that int -/
theorem own_eqI {args : Array Value} {s : State} {t : Term} {k : Int32} (h : (Jvm.Cond.eq t (.int k)).value args s none s [] = some true) : t.eval args s none [] s = some (.int k) := by
  obtain ⟨u, y, e1, e2, k1, k2⟩ := cmp_v (Or.inl h)
  obtain rfl : y = .int k := (Option.some.inj ((Term.int_eval k).symm.trans e2)).symm
  obtain ⟨z, rfl⟩ : ∃ z, u = .int z := k2
  have q : z = k := gotT (Cond.eq_ints e1 (Term.int_eval k)) h
  rw [e1, q]
/-- a term that the case says equals one that is worth an object is worth that object -/
theorem own_eqR {args : Array Value} {s : State} {t t' : Term} {b : Addr} (h : (Jvm.Cond.eq t t').value args s none s [] = some true) (hb : t'.eval args s none [] s = some (.ref b)) : t.eval args s none [] s = some (.ref b) := by
  obtain ⟨u, y, e1, e2, k1, k2⟩ := cmp_v (Or.inl h)
  obtain rfl : y = .ref b := (Option.some.inj (hb.symm.trans e2)).symm
  have q : u = .ref b := gotT (eq_R e1 hb k2.2 rfl) h
  rw [e1, q]
/-- two objects whose fields hold unlike values are unlike -/
theorem own_ne {s : State} {a b : Addr} {C n d : String} {v w : Value} (h1 : s.fieldOf? a C n d = some v) (h2 : s.fieldOf? b C n d = some w) (q : v ≠ w) : a ≠ b := fun e => by
  subst e; exact q (Option.some.inj (h1.symm.trans h2))
theorem own_lt2 (z : Int32) (h1 : 0 ≤ z.toInt) (h2 : z.toInt < 2) : z = (0 : Int32) ∨ z = (1 : Int32) := by
  have e0 : (0 : Int32).toInt = 0 := by decide +kernel
  have e1 : (1 : Int32).toInt = 1 := by decide +kernel
  simp only [← Int32.toInt_inj]
  omega
theorem own_and2 (p : Int32) : (p &&& (1 : Int32)) = (0 : Int32) ∨ (p &&& (1 : Int32)) = (1 : Int32) := by
  have e := Jvm.Kit.i32_mask p 1 (k := 1) (by decide) (by decide)
  exact own_lt2 _ (by rw [e]; omega) (by rw [e]; omega)
theorem own_two (p : Int32) : (p &&& (2 : Int32)) = (0 : Int32) ∨ (p &&& (2 : Int32)) = (2 : Int32) := by
  have h : ∀ b : BitVec 32, b &&& 2#32 = 0#32 ∨ b &&& 2#32 = 2#32 := fun b => by
    have e : 2#32 = BitVec.twoPow 32 1 := by decide
    rw [e, BitVec.and_twoPow]
    split
    · exact Or.inr rfl
    · exact Or.inl rfl
  rcases h p.toBitVec with q | q
  · exact Or.inl (Int32.toBitVec_inj.mp q)
  · exact Or.inr (Int32.toBitVec_inj.mp q)
theorem own_tri (a b : Int64) : a < b ∨ a = b ∨ b < a := by
  simp only [Int64.lt_iff_toInt_lt, ← Int64.toInt_inj]; omega
theorem own_lc_lt {a b : Int64} (h : a < b) : (lcmpW a b) = (-1 : Int32) := by
  have h1 : ¬ (a > b) := by simp only [GT.gt, Int64.lt_iff_toInt_lt] at *; omega
  have h2 : ¬ (a = b) := by simp only [Int64.lt_iff_toInt_lt, ← Int64.toInt_inj] at *; omega
  simp only [lcmpW, if_neg h1, if_neg h2]
theorem own_lc_eq {a b : Int64} (h : a = b) : (lcmpW a b) = (0 : Int32) := by
  rw [lcW]; exact (lc_eq _ _).mpr h
theorem own_lc_gt {a b : Int64} (h : b < a) : (lcmpW a b) = (1 : Int32) := by
  simp only [lcmpW, if_pos (show a > b from h)]
theorem own_lr_lt {a b : Int64} (h : a < b) : (lcmpW b a) = (1 : Int32) := own_lc_gt h
theorem own_lr_eq {a b : Int64} (h : a = b) : (lcmpW b a) = (0 : Int32) := own_lc_eq h.symm
theorem own_lr_gt {a b : Int64} (h : b < a) : (lcmpW b a) = (-1 : Int32) := own_lc_lt h

theorem d0_0 : decode prog_44_method_5_code 0 = .ok (.aload_n 0, 1) := by decide +kernel
theorem d0_1 : decode prog_44_method_5_code 1 = .ok (.getstatic 3, 3) := by decide +kernel
theorem d0_4 : decode prog_44_method_5_code 4 = .ok (.if_acmp .ne 17, 3) := by decide +kernel
theorem d0_7 : decode prog_44_method_5_code 7 = .ok (.lload_n 3, 1) := by decide +kernel
theorem d0_8 : decode prog_44_method_5_code 8 = .ok (.lload_n 1, 1) := by decide +kernel
theorem d0_9 : decode prog_44_method_5_code 9 = .ok (.lcmp, 1) := by decide +kernel
theorem d0_10 : decode prog_44_method_5_code 10 = .ok (.ifCond .gt 7, 3) := by decide +kernel
theorem d0_13 : decode prog_44_method_5_code 13 = .ok (.iconst 1, 1) := by decide +kernel
theorem d0_14 : decode prog_44_method_5_code 14 = .ok (.goto 18, 3) := by decide +kernel
theorem d0_17 : decode prog_44_method_5_code 17 = .ok (.iconst 0, 1) := by decide +kernel
theorem d0_18 : decode prog_44_method_5_code 18 = .ok (.goto 14, 3) := by decide +kernel
theorem d0_21 : decode prog_44_method_5_code 21 = .ok (.lload_n 3, 1) := by decide +kernel
theorem d0_22 : decode prog_44_method_5_code 22 = .ok (.lload_n 1, 1) := by decide +kernel
theorem d0_23 : decode prog_44_method_5_code 23 = .ok (.lcmp, 1) := by decide +kernel
theorem d0_24 : decode prog_44_method_5_code 24 = .ok (.ifCond .lt 7, 3) := by decide +kernel
theorem d0_27 : decode prog_44_method_5_code 27 = .ok (.iconst 1, 1) := by decide +kernel
theorem d0_28 : decode prog_44_method_5_code 28 = .ok (.goto 4, 3) := by decide +kernel
theorem d0_31 : decode prog_44_method_5_code 31 = .ok (.iconst 0, 1) := by decide +kernel
theorem d0_32 : decode prog_44_method_5_code 32 = .ok (.ireturn, 1) := by decide +kernel
theorem d1_0 : decode jdk_29_method_70_code 0 = .ok (.lload_n 0, 1) := by decide +kernel
theorem d1_1 : decode jdk_29_method_70_code 1 = .ok (.lload_n 2, 1) := by decide +kernel
theorem d1_2 : decode jdk_29_method_70_code 2 = .ok (.lcmp, 1) := by decide +kernel
theorem d1_3 : decode jdk_29_method_70_code 3 = .ok (.ifCond .gt 7, 3) := by decide +kernel
theorem d1_6 : decode jdk_29_method_70_code 6 = .ok (.lload_n 0, 1) := by decide +kernel
theorem d1_7 : decode jdk_29_method_70_code 7 = .ok (.goto 4, 3) := by decide +kernel
theorem d1_10 : decode jdk_29_method_70_code 10 = .ok (.lload_n 2, 1) := by decide +kernel
theorem d1_11 : decode jdk_29_method_70_code 11 = .ok (.lreturn, 1) := by decide +kernel
theorem d2_0 : decode jdk_29_method_66_code 0 = .ok (.lload_n 0, 1) := by decide +kernel
theorem d2_1 : decode jdk_29_method_66_code 1 = .ok (.lload_n 2, 1) := by decide +kernel
theorem d2_2 : decode jdk_29_method_66_code 2 = .ok (.lcmp, 1) := by decide +kernel
theorem d2_3 : decode jdk_29_method_66_code 3 = .ok (.ifCond .lt 7, 3) := by decide +kernel
theorem d2_6 : decode jdk_29_method_66_code 6 = .ok (.lload_n 0, 1) := by decide +kernel
theorem d2_7 : decode jdk_29_method_66_code 7 = .ok (.goto 4, 3) := by decide +kernel
theorem d2_10 : decode jdk_29_method_66_code 10 = .ok (.lload_n 2, 1) := by decide +kernel
theorem d2_11 : decode jdk_29_method_66_code 11 = .ok (.lreturn, 1) := by decide +kernel
theorem pn0 : plainName "com/example/bookfence/bookfence/engine/Side" = true := by first | (simp [plainName, overriddenIn]; done) | decide +kernel
theorem pn3 : plainName "com/example/bookfence/bookfence/engine/SideAllowsPinLaw" = true := by first | (simp [plainName, overriddenIn]; done) | decide +kernel
theorem pd0 : parseMethodDescriptor "(JJ)Z" = some ⟨[.long, .long], some .boolean⟩ := by decide +kernel
theorem pd1 : parseMethodDescriptor "(JJ)J" = some ⟨[.long, .long], some .long⟩ := by decide +kernel
def QV (val : Value) (h0 : Heap) (n0 : Nat) (v : Option Value) (h : Heap) (L : List Loc) : Prop := v = some val ∧ Fr n0 L ∧ h = h0
def Ctx (Z : State) (h0 : Heap) (s_SELL : Addr) (s_BUY : Addr) : Prop :=
  Sta Z h0 "com/example/bookfence/bookfence/engine/Side" "SELL" "Lcom/example/bookfence/bookfence/engine/Side;" (.ref s_SELL) ∧
  Sta Z h0 "com/example/bookfence/bookfence/engine/Side" "BUY" "Lcom/example/bookfence/bookfence/engine/Side;" (.ref s_BUY) ∧
  s_BUY ≠ s_SELL ∧
  Exa Z h0 s_SELL "com/example/bookfence/bookfence/engine/Side" ∧
  Exa Z h0 s_BUY "com/example/bookfence/bookfence/engine/Side"

set_option maxRecDepth 65536 in
set_option maxHeartbeats 40000000 in
theorem r0 (l : Launch) (Z : State) (a0 : Array Value) (hw : ∀ d ∈ tables_1, d.before a0 Z = true) (ws : List Jvm.Cond) (h0 : Heap) (n0 : Nat) (s_SELL : Addr) (s_BUY : Addr) (K : Ctx Z h0 s_SELL s_BUY) (p1 : Int64) (p2 : Int64) (hc : p2 < p1) :
    MetFree l (⟨"com/example/bookfence/bookfence/engine/Side", "allows", "(JJ)Z"⟩ : MethodName) (head1 (Jvm.Cond.code (⟨"com/example/bookfence/bookfence/engine/Side", "allows", "(JJ)Z"⟩ : MethodName) prog_44_method_5_code 5 (some .boolean) :: ws) ({ frames := 0, cells := 0, slots := 0, locals := 0 } : Room)) (fun a U => a = #[(.ref s_SELL), (.long p1), (.long p2)] ∧ Z.Warmed39 U.vm ∧ U.heap = h0) (fun _ _ _ _ _ => True) (fun _ U o U' => ∃ v L, o = .returned v ∧ QV (.int (0 : Int32)) h0 n0 v U'.heap L ∧ FrameEnd U o U' L ({ frames := 0, cells := 0, slots := 0, locals := 0 } : Room).cells ({ frames := 0, cells := 0, slots := 0, locals := 0 } : Room).slots) := by
  obtain ⟨S_SELL, S_BUY, ne_BUY_SELL, E_SELL, E_BUY⟩ := id K
  refine MetFree.of_bodySF (plainFor_of_name pn0) hisR ?_
  intro p e s m args below meth c s₁ Bd hml0 hP hK
  obtain ⟨rfl, hZ, hh⟩ := hP
  have hx := Bd.exec
  have hby := Bd.bytes
  have hml : c.maxLocals = 5 := hml0
  have hown : s.vm.findClass "com/example/bookfence/bookfence/engine/Side" = some m.cls := findClass_of_methodNamed Bd.named
  have X0 : Stand p l e ({ frames := 0, cells := 0, slots := 0, locals := 0 } : Room) s m #[(.ref s_SELL), (.long p1), (.long p2)] below meth c s₁ [] 0 0 := Stand.of_body Bd
  have e0 : s₁.heap = h0 := by rw [← hh, Bd.state]; rfl
  have N0 := Fr.nil n0
  have pre0 : ∀ t, Steps p.tables e below (s₁.setTop (mkF m 0 #[.val (.ref s_SELL), .val (.long p1), .second, .val (.long p2), .second] [])) t → Steps p.tables e below (s₁.setTop (entryFrame m #[(.ref s_SELL), (.long p1), (.long p2)] 5)) t := fun t k => castTop (by first | (simp [entryFrame, mkF, argsToLocals, Value.category]; done) | rfl) k
  obtain ⟨T1, X1, e1, st1⟩ := getS X0 hx hZ hown (host := "") (hw _ (List.mem_of_getElem? (i := 8) rfl)) Via.refl e0 S_BUY (g := (mkF m 1 #[.val (.ref s_SELL), .val (.long p1), .second, .val (.long p2), .second] [(.ref s_SELL)])) rfl (hb hby d0_1)
  obtain ⟨fs, hr, hrun, hended, hW, hsame⟩ := X1.leave (v := some (.int (0 : Int32))) (fun h => by rw [Bd.returns] at h; cases h)
  refine ⟨_, _, pre0 _ ?_, hrun, hended, _, _, rfl, ?_, ⟨_, rfl⟩, hW, hsame.mono (by decide) (by decide)⟩
  · show Steps p.tables e below (s₁.setTop (mkF m 0 #[.val (.ref s_SELL), .val (.long p1), .second, .val (.long p2), .second] [])) _
    refine XS.aloadN X0.here hx rfl (hb hby d0_0) rfl rfl ?_
    show Steps p.tables e below (s₁.setTop (mkF m 1 #[.val (.ref s_SELL), .val (.long p1), .second, .val (.long p2), .second] [(.ref s_SELL)])) _
    refine st1 _ ?_
    show Steps p.tables e below (T1.setTop (mkF m 4 #[.val (.ref s_SELL), .val (.long p1), .second, .val (.long p2), .second] [(.ref s_BUY), (.ref s_SELL)])) _
    refine Jvm.RoadKit.acmp (g := (mkF m 4 #[.val (.ref s_SELL), .val (.long p1), .second, .val (.long p2), .second] [(.ref s_BUY), (.ref s_SELL)])) X1 hx rfl rfl rfl (pc0 := 4) (pc' := 21) (same := false) rfl (hb hby d0_4) rfl (decide_eq_false fun q => (Ne.symm ne_BUY_SELL) (Value.ref.inj q)) (by decide) (by decide) ?_
    show Steps p.tables e below (T1.setTop (mkF m 21 #[.val (.ref s_SELL), .val (.long p1), .second, .val (.long p2), .second] [])) _
    refine XS.lloadN X1.here hx rfl (hb hby d0_21) rfl ?_
    show Steps p.tables e below (T1.setTop (mkF m 22 #[.val (.ref s_SELL), .val (.long p1), .second, .val (.long p2), .second] [(.long p2)])) _
    refine XS.lloadN X1.here hx rfl (hb hby d0_22) rfl ?_
    show Steps p.tables e below (T1.setTop (mkF m 23 #[.val (.ref s_SELL), .val (.long p1), .second, .val (.long p2), .second] [(.long p1), (.long p2)])) _
    refine XS.lcmp X1.here hx rfl (hb hby d0_23) rfl ?_
    show Steps p.tables e below (T1.setTop (mkF m 24 #[.val (.ref s_SELL), .val (.long p1), .second, .val (.long p2), .second] [(.int (lcmpW p2 p1))])) _
    rw [own_lc_lt hc]
    show Steps p.tables e below (T1.setTop (mkF m 24 #[.val (.ref s_SELL), .val (.long p1), .second, .val (.long p2), .second] [(.int (-1 : Int32))])) _
    refine XS.ifYes X1.here hx rfl (pc0 := 24) (pc' := 31) rfl (hb hby d0_24) rfl (by decide +kernel) (by decide) (by decide) ?_
    show Steps p.tables e below (T1.setTop (mkF m 31 #[.val (.ref s_SELL), .val (.long p1), .second, .val (.long p2), .second] [])) _
    refine XS.iconst X1.here hx rfl (hb hby d0_31) ?_
    show Steps p.tables e below (T1.setTop (mkF m 32 #[.val (.ref s_SELL), .val (.long p1), .second, .val (.long p2), .second] [(.int (0 : Int32))])) _
    exact retN X1 hx (t := .boolean) Bd.returns (by simp) (hb hby d0_32) hr
  · exact ⟨rfl, N0, e1⟩
set_option maxRecDepth 65536 in
set_option maxHeartbeats 40000000 in
theorem r1 (l : Launch) (Z : State) (a0 : Array Value) (hw : ∀ d ∈ tables_1, d.before a0 Z = true) (ws : List Jvm.Cond) (h0 : Heap) (n0 : Nat) (s_SELL : Addr) (s_BUY : Addr) (K : Ctx Z h0 s_SELL s_BUY) (p1 : Int64) (p2 : Int64) (hc : p2 < p1) :
    MetFree l (⟨"java/lang/Math", "min", "(JJ)J"⟩ : MethodName) (head1 (Jvm.Cond.code (⟨"java/lang/Math", "min", "(JJ)J"⟩ : MethodName) jdk_29_method_70_code 4 (some .long) :: ws) ({ frames := 0, cells := 0, slots := 0, locals := 0 } : Room)) (fun a U => a = #[(.long p1), (.long p2)] ∧ Z.Warmed39 U.vm ∧ U.heap = h0) (fun _ _ _ _ _ => True) (fun _ U o U' => ∃ v L, o = .returned v ∧ QV (.long p2) h0 n0 v U'.heap L ∧ FrameEnd U o U' L ({ frames := 0, cells := 0, slots := 0, locals := 0 } : Room).cells ({ frames := 0, cells := 0, slots := 0, locals := 0 } : Room).slots) := by
  obtain ⟨S_SELL, S_BUY, ne_BUY_SELL, E_SELL, E_BUY⟩ := id K
  refine MetFree.of_bodySF (Jvm.Free.JP.mathPlain rfl (by decide +kernel)) hisR ?_
  intro p e s m args below meth c s₁ Bd hml0 hP hK
  obtain ⟨rfl, hZ, hh⟩ := hP
  have hx := Bd.exec
  have hby := Bd.bytes
  have hml : c.maxLocals = 4 := hml0
  have hown : s.vm.findClass "java/lang/Math" = some m.cls := findClass_of_methodNamed Bd.named
  have X0 : Stand p l e ({ frames := 0, cells := 0, slots := 0, locals := 0 } : Room) s m #[(.long p1), (.long p2)] below meth c s₁ [] 0 0 := Stand.of_body Bd
  have e0 : s₁.heap = h0 := by rw [← hh, Bd.state]; rfl
  have N0 := Fr.nil n0
  have pre0 : ∀ t, Steps p.tables e below (s₁.setTop (mkF m 0 #[.val (.long p1), .second, .val (.long p2), .second] [])) t → Steps p.tables e below (s₁.setTop (entryFrame m #[(.long p1), (.long p2)] 4)) t := fun t k => castTop (by first | (simp [entryFrame, mkF, argsToLocals, Value.category]; done) | rfl) k
  obtain ⟨fs, hr, hrun, hended, hW, hsame⟩ := X0.leave (v := some (.long p2)) (fun h => by rw [Bd.returns] at h; cases h)
  refine ⟨_, _, pre0 _ ?_, hrun, hended, _, _, rfl, ?_, ⟨_, rfl⟩, hW, hsame.mono (by decide) (by decide)⟩
  · show Steps p.tables e below (s₁.setTop (mkF m 0 #[.val (.long p1), .second, .val (.long p2), .second] [])) _
    refine XS.lloadN X0.here hx rfl (hb hby d1_0) rfl ?_
    show Steps p.tables e below (s₁.setTop (mkF m 1 #[.val (.long p1), .second, .val (.long p2), .second] [(.long p1)])) _
    refine XS.lloadN X0.here hx rfl (hb hby d1_1) rfl ?_
    show Steps p.tables e below (s₁.setTop (mkF m 2 #[.val (.long p1), .second, .val (.long p2), .second] [(.long p2), (.long p1)])) _
    refine XS.lcmp X0.here hx rfl (hb hby d1_2) rfl ?_
    show Steps p.tables e below (s₁.setTop (mkF m 3 #[.val (.long p1), .second, .val (.long p2), .second] [(.int (lcmpW p1 p2))])) _
    rw [own_lr_lt hc]
    show Steps p.tables e below (s₁.setTop (mkF m 3 #[.val (.long p1), .second, .val (.long p2), .second] [(.int (1 : Int32))])) _
    refine XS.ifYes X0.here hx rfl (pc0 := 3) (pc' := 10) rfl (hb hby d1_3) rfl (by decide +kernel) (by decide) (by decide) ?_
    show Steps p.tables e below (s₁.setTop (mkF m 10 #[.val (.long p1), .second, .val (.long p2), .second] [])) _
    refine XS.lloadN X0.here hx rfl (hb hby d1_10) rfl ?_
    show Steps p.tables e below (s₁.setTop (mkF m 11 #[.val (.long p1), .second, .val (.long p2), .second] [(.long p2)])) _
    exact retOut X0 hx (i := .lreturn) Bd.returns rfl (Or.inr (Or.inl ⟨rfl, rfl, _, rfl⟩)) (hb hby d1_11) hr
  · exact ⟨rfl, N0, e0⟩
set_option maxRecDepth 65536 in
set_option maxHeartbeats 40000000 in
theorem law_k0_0_lt (l : Launch) (Z : State) (a0 : Array Value) (hw : ∀ d ∈ tables_1, d.before a0 Z = true) (ws : List Jvm.Cond) (h0 : Heap) (n0 : Nat) (s_SELL : Addr) (s_BUY : Addr) (K : Ctx Z h0 s_SELL s_BUY) (p0 : Int32) (p1 : Int64) (p2 : Int64) (ha : (p0 &&& (1 : Int32)) = (0 : Int32)) (hb1 : (p0 &&& (2 : Int32)) = (0 : Int32)) (hc : p2 < p1) :
    MetFree l x (head1 (Jvm.Cond.code x code maxLocals ret :: ws) room_1) (fun a U => a = #[(.int p0), (.long p1), (.long p2)] ∧ Z.Warmed39 U.vm ∧ U.heap = h0) (fun _ _ _ _ _ => True) (fun _ U o U' => ∃ v L, o = .returned v ∧ QV (.int (1 : Int32)) h0 n0 v U'.heap L ∧ FrameEnd U o U' L room_1.cells room_1.slots) := by
  obtain ⟨S_SELL, S_BUY, ne_BUY_SELL, E_SELL, E_BUY⟩ := id K
  refine MetFree.of_bodySF (plainFor_of_name pn3) hisR ?_
  intro p e s m args below meth c s₁ Bd hml0 hP hK
  obtain ⟨rfl, hZ, hh⟩ := hP
  have hx := Bd.exec
  have hby := Bd.bytes
  have hml : c.maxLocals = 12 := hml0
  have hown : s.vm.findClass "com/example/bookfence/bookfence/engine/SideAllowsPinLaw" = some m.cls := findClass_of_methodNamed Bd.named
  have X0 : Stand p l e room_1 s m #[(.int p0), (.long p1), (.long p2)] below meth c s₁ [] 0 0 := Stand.of_body Bd
  have e0 : s₁.heap = h0 := by rw [← hh, Bd.state]; rfl
  have N0 := Fr.nil n0
  have pre0 : ∀ t, Steps p.tables e below (s₁.setTop (mkF m 0 #[.val (.int p0), .val (.long p1), .second, .val (.long p2), .second, .unset, .unset, .unset, .unset, .unset, .unset, .unset] [])) t → Steps p.tables e below (s₁.setTop (entryFrame m #[(.int p0), (.long p1), (.long p2)] maxLocals)) t := fun t k => castTop (by first | (simp [entryFrame, mkF, argsToLocals, Value.category, maxLocals]; done) | rfl) k
  obtain ⟨T1, X1, e1, st1⟩ := getS X0 hx hZ hown (host := "") (hw _ (List.mem_of_getElem? (i := 0) rfl)) Via.refl e0 S_SELL (g := (mkF m 12 #[.val (.int p0), .val (.long p1), .second, .val (.long p2), .second, .unset, .unset, .unset, .unset, .unset, .unset, .unset] [])) rfl (hb hby at_12)
  obtain ⟨cq2, kq2, q2a, q2b, q2c⟩ := isOf hZ e1 E_SELL
  obtain ⟨_, _, ⟨T2, L2, k2, n2⟩, -, X2, ⟨Lc2, hQ2, l2, y2, z2⟩, st2⟩ := X1.virtualBack hx (y := (⟨"com/example/bookfence/bookfence/engine/Side", "allows", "(JJ)Z"⟩ : MethodName)) (z := (⟨"com/example/bookfence/bookfence/engine/Side", "allows", "(JJ)Z"⟩ : MethodName)) hown (mvT hZ (hw _ (List.mem_of_getElem? (i := 3) rfl))) (mvT hZ (hw _ (List.mem_of_getElem? (i := 4) rfl))) (notFace_of_selects (args := #[]) (mvT hZ (hw _ (List.mem_of_getElem? (i := 6) rfl)))) (mvT hZ (hw _ (List.mem_of_getElem? (i := 6) rfl))) (mvT hZ (hw _ (List.mem_of_getElem? (i := 5) rfl))) (by decide) (backOf (W := 0) (r0 l Z a0 hw [] h0 n0 s_SELL s_BUY K p1 p2 hc) hZ (hw _ (List.mem_of_getElem? (i := 7) rfl)) (hw _ (List.mem_of_getElem? (i := 1) rfl)) (by decide) (by decide)) q2a q2c (g := (mkF m 48 #[.val (.int p0), .val (.long p1), .second, .val (.long p2), .second, .val (.ref s_SELL), .val (.long ((((p0 >>> ((2 : Int32) &&& 31)) &&& (3 : Int32)) - (1 : Int32)).toInt64)), .second, .val (.long p2), .second, .unset, .unset] [(.long p2), (.long p1), (.ref s_SELL)])) rfl (by rw [hml]; rfl) (Steps.refl _) (argsL := [(.long p1), (.long p2)]) (rest := []) (lenOf pd0 rfl) rfl (by show 2 * 0 + _ ≤ _; exact Nat.le_of_eq rfl) (hb hby at_48) (fun _ _ => ⟨rfl, e1, (by decide : 0 + 0 ≤ _), (by decide : 0 + 0 ≤ _)⟩)
  dsimp only [Pt.U, Pt.locs, Pt.cells, Pt.slots] at X2 l2 y2 z2 st2 hQ2
  subst l2 y2 z2
  obtain ⟨rfl, N2q, e2⟩ := hQ2
  have N2 := Fr.app N0 N2q
  obtain ⟨T3, X3, e3, st3⟩ := getS X2 hx hZ hown (host := "") (hw _ (List.mem_of_getElem? (i := 10) rfl)) Via.refl e2 S_BUY (g := (mkF m 55 #[.val (.int p0), .val (.long p1), .second, .val (.long p2), .second, .val (.ref s_SELL), .val (.long ((((p0 >>> ((2 : Int32) &&& 31)) &&& (3 : Int32)) - (1 : Int32)).toInt64)), .second, .val (.long p2), .second, .val (.int (0 : Int32)), .unset] [(.ref s_SELL)])) rfl (hb hby at_55)
  obtain ⟨_, _, ⟨T4, L4, k4, n4⟩, -, X4, ⟨Lc4, hQ4, l4, y4, z4⟩, st4⟩ := Jvm.LawKit.callS X3 hx (y := (⟨"java/lang/Math", "min", "(JJ)J"⟩ : MethodName)) hown (mvT hZ (hw _ (List.mem_of_getElem? (i := 11) rfl))) (mvT hZ (hw _ (List.mem_of_getElem? (i := 12) rfl))) (mvT hZ (hw _ (List.mem_of_getElem? (i := 13) rfl))) (mvT hZ (hw _ (List.mem_of_getElem? (i := 14) rfl))) (by decide) (backOf (W := 0) (r1 l Z a0 hw [] h0 n0 s_SELL s_BUY K p1 p2 hc) hZ (hw _ (List.mem_of_getElem? (i := 14) rfl)) (hw _ (List.mem_of_getElem? (i := 13) rfl)) (by decide) (by decide)) (g := (mkF m 85 #[.val (.int p0), .val (.long p1), .second, .val (.long p2), .second, .val (.ref s_SELL), .val (.long ((((p0 >>> ((2 : Int32) &&& 31)) &&& (3 : Int32)) - (1 : Int32)).toInt64)), .second, .val (.long p2), .second, .val (.int (0 : Int32)), .unset] [(.long p2), (.long p1)])) rfl (by rw [hml]; rfl) (argsL := [(.long p1), (.long p2)]) (rest := []) (lenOf pd1 rfl) rfl (by show 2 * 0 + _ ≤ _; exact Nat.le_of_eq rfl) (hb hby at_85) (fun _ _ => ⟨rfl, e3, (by decide : 0 + 0 ≤ _), (by decide : 0 + 0 ≤ _)⟩)
  dsimp only [Pt.U, Pt.locs, Pt.cells, Pt.slots] at X4 l4 y4 z4 st4 hQ4
  subst l4 y4 z4
  obtain ⟨rfl, N4q, e4⟩ := hQ4
  have N4 := Fr.app N2 N4q
  obtain ⟨fs, hr, hrun, hended, hW, hsame⟩ := X4.leave (v := some (.int (1 : Int32))) (fun h => by rw [Bd.returns] at h; cases h)
  refine ⟨_, _, pre0 _ ?_, hrun, hended, _, _, rfl, ?_, ⟨_, rfl⟩, hW, hsame.mono (by decide) (by decide)⟩
  · show Steps p.tables e below (s₁.setTop (mkF m 0 #[.val (.int p0), .val (.long p1), .second, .val (.long p2), .second, .unset, .unset, .unset, .unset, .unset, .unset, .unset] [])) _
    refine XS.iloadN X0.here hx rfl (hb hby at_0) rfl ?_
    show Steps p.tables e below (s₁.setTop (mkF m 1 #[.val (.int p0), .val (.long p1), .second, .val (.long p2), .second, .unset, .unset, .unset, .unset, .unset, .unset, .unset] [(.int p0)])) _
    refine XS.iconst X0.here hx rfl (hb hby at_1) ?_
    show Steps p.tables e below (s₁.setTop (mkF m 2 #[.val (.int p0), .val (.long p1), .second, .val (.long p2), .second, .unset, .unset, .unset, .unset, .unset, .unset, .unset] [(.int (1 : Int32)), (.int p0)])) _
    refine XS.iand X0.here hx rfl (hb hby at_2) rfl ?_
    show Steps p.tables e below (s₁.setTop (mkF m 3 #[.val (.int p0), .val (.long p1), .second, .val (.long p2), .second, .unset, .unset, .unset, .unset, .unset, .unset, .unset] [(.int (p0 &&& (1 : Int32)))])) _
    rw [ha]
    show Steps p.tables e below (s₁.setTop (mkF m 3 #[.val (.int p0), .val (.long p1), .second, .val (.long p2), .second, .unset, .unset, .unset, .unset, .unset, .unset, .unset] [(.int (0 : Int32))])) _
    refine XS.ifYes X0.here hx rfl (pc0 := 3) (pc' := 12) rfl (hb hby at_3) rfl (by decide +kernel) (by decide) (by decide) ?_
    show Steps p.tables e below (s₁.setTop (mkF m 12 #[.val (.int p0), .val (.long p1), .second, .val (.long p2), .second, .unset, .unset, .unset, .unset, .unset, .unset, .unset] [])) _
    refine st1 _ ?_
    show Steps p.tables e below (T1.setTop (mkF m 15 #[.val (.int p0), .val (.long p1), .second, .val (.long p2), .second, .unset, .unset, .unset, .unset, .unset, .unset, .unset] [(.ref s_SELL)])) _
    refine XS.astore X1.here hx rfl (hb hby at_15) rfl rfl (l' := #[.val (.int p0), .val (.long p1), .second, .val (.long p2), .second, .val (.ref s_SELL), .unset, .unset, .unset, .unset, .unset, .unset]) rfl ?_
    show Steps p.tables e below (T1.setTop (mkF m 17 #[.val (.int p0), .val (.long p1), .second, .val (.long p2), .second, .val (.ref s_SELL), .unset, .unset, .unset, .unset, .unset, .unset] [])) _
    refine XS.iloadN X1.here hx rfl (hb hby at_17) rfl ?_
    show Steps p.tables e below (T1.setTop (mkF m 18 #[.val (.int p0), .val (.long p1), .second, .val (.long p2), .second, .val (.ref s_SELL), .unset, .unset, .unset, .unset, .unset, .unset] [(.int p0)])) _
    refine XS.iconst X1.here hx rfl (hb hby at_18) ?_
    show Steps p.tables e below (T1.setTop (mkF m 19 #[.val (.int p0), .val (.long p1), .second, .val (.long p2), .second, .val (.ref s_SELL), .unset, .unset, .unset, .unset, .unset, .unset] [(.int (2 : Int32)), (.int p0)])) _
    refine XS.ishr X1.here hx rfl (hb hby at_19) rfl ?_
    show Steps p.tables e below (T1.setTop (mkF m 20 #[.val (.int p0), .val (.long p1), .second, .val (.long p2), .second, .val (.ref s_SELL), .unset, .unset, .unset, .unset, .unset, .unset] [(.int (p0 >>> ((2 : Int32) &&& 31)))])) _
    refine XS.iconst X1.here hx rfl (hb hby at_20) ?_
    show Steps p.tables e below (T1.setTop (mkF m 21 #[.val (.int p0), .val (.long p1), .second, .val (.long p2), .second, .val (.ref s_SELL), .unset, .unset, .unset, .unset, .unset, .unset] [(.int (3 : Int32)), (.int (p0 >>> ((2 : Int32) &&& 31)))])) _
    refine XS.iand X1.here hx rfl (hb hby at_21) rfl ?_
    show Steps p.tables e below (T1.setTop (mkF m 22 #[.val (.int p0), .val (.long p1), .second, .val (.long p2), .second, .val (.ref s_SELL), .unset, .unset, .unset, .unset, .unset, .unset] [(.int ((p0 >>> ((2 : Int32) &&& 31)) &&& (3 : Int32)))])) _
    refine XS.iconst X1.here hx rfl (hb hby at_22) ?_
    show Steps p.tables e below (T1.setTop (mkF m 23 #[.val (.int p0), .val (.long p1), .second, .val (.long p2), .second, .val (.ref s_SELL), .unset, .unset, .unset, .unset, .unset, .unset] [(.int (1 : Int32)), (.int ((p0 >>> ((2 : Int32) &&& 31)) &&& (3 : Int32)))])) _
    refine XS.isub X1.here hx rfl (hb hby at_23) rfl ?_
    show Steps p.tables e below (T1.setTop (mkF m 24 #[.val (.int p0), .val (.long p1), .second, .val (.long p2), .second, .val (.ref s_SELL), .unset, .unset, .unset, .unset, .unset, .unset] [(.int (((p0 >>> ((2 : Int32) &&& 31)) &&& (3 : Int32)) - (1 : Int32)))])) _
    refine XS.i2l X1.here hx rfl (hb hby at_24) rfl ?_
    show Steps p.tables e below (T1.setTop (mkF m 25 #[.val (.int p0), .val (.long p1), .second, .val (.long p2), .second, .val (.ref s_SELL), .unset, .unset, .unset, .unset, .unset, .unset] [(.long ((((p0 >>> ((2 : Int32) &&& 31)) &&& (3 : Int32)) - (1 : Int32)).toInt64))])) _
    refine XS.lstore X1.here hx rfl (hb hby at_25) rfl (l' := #[.val (.int p0), .val (.long p1), .second, .val (.long p2), .second, .val (.ref s_SELL), .val (.long ((((p0 >>> ((2 : Int32) &&& 31)) &&& (3 : Int32)) - (1 : Int32)).toInt64)), .second, .unset, .unset, .unset, .unset]) rfl ?_
    show Steps p.tables e below (T1.setTop (mkF m 27 #[.val (.int p0), .val (.long p1), .second, .val (.long p2), .second, .val (.ref s_SELL), .val (.long ((((p0 >>> ((2 : Int32) &&& 31)) &&& (3 : Int32)) - (1 : Int32)).toInt64)), .second, .unset, .unset, .unset, .unset] [])) _
    refine XS.iloadN X1.here hx rfl (hb hby at_27) rfl ?_
    show Steps p.tables e below (T1.setTop (mkF m 28 #[.val (.int p0), .val (.long p1), .second, .val (.long p2), .second, .val (.ref s_SELL), .val (.long ((((p0 >>> ((2 : Int32) &&& 31)) &&& (3 : Int32)) - (1 : Int32)).toInt64)), .second, .unset, .unset, .unset, .unset] [(.int p0)])) _
    refine XS.iconst X1.here hx rfl (hb hby at_28) ?_
    show Steps p.tables e below (T1.setTop (mkF m 29 #[.val (.int p0), .val (.long p1), .second, .val (.long p2), .second, .val (.ref s_SELL), .val (.long ((((p0 >>> ((2 : Int32) &&& 31)) &&& (3 : Int32)) - (1 : Int32)).toInt64)), .second, .unset, .unset, .unset, .unset] [(.int (2 : Int32)), (.int p0)])) _
    refine XS.iand X1.here hx rfl (hb hby at_29) rfl ?_
    show Steps p.tables e below (T1.setTop (mkF m 30 #[.val (.int p0), .val (.long p1), .second, .val (.long p2), .second, .val (.ref s_SELL), .val (.long ((((p0 >>> ((2 : Int32) &&& 31)) &&& (3 : Int32)) - (1 : Int32)).toInt64)), .second, .unset, .unset, .unset, .unset] [(.int (p0 &&& (2 : Int32)))])) _
    rw [hb1]
    show Steps p.tables e below (T1.setTop (mkF m 30 #[.val (.int p0), .val (.long p1), .second, .val (.long p2), .second, .val (.ref s_SELL), .val (.long ((((p0 >>> ((2 : Int32) &&& 31)) &&& (3 : Int32)) - (1 : Int32)).toInt64)), .second, .unset, .unset, .unset, .unset] [(.int (0 : Int32))])) _
    refine XS.ifYes X1.here hx rfl (pc0 := 30) (pc' := 40) rfl (hb hby at_30) rfl (by decide +kernel) (by decide) (by decide) ?_
    show Steps p.tables e below (T1.setTop (mkF m 40 #[.val (.int p0), .val (.long p1), .second, .val (.long p2), .second, .val (.ref s_SELL), .val (.long ((((p0 >>> ((2 : Int32) &&& 31)) &&& (3 : Int32)) - (1 : Int32)).toInt64)), .second, .unset, .unset, .unset, .unset] [])) _
    refine XS.lloadN X1.here hx rfl (hb hby at_40) rfl ?_
    show Steps p.tables e below (T1.setTop (mkF m 41 #[.val (.int p0), .val (.long p1), .second, .val (.long p2), .second, .val (.ref s_SELL), .val (.long ((((p0 >>> ((2 : Int32) &&& 31)) &&& (3 : Int32)) - (1 : Int32)).toInt64)), .second, .unset, .unset, .unset, .unset] [(.long p2)])) _
    refine XS.lstore X1.here hx rfl (hb hby at_41) rfl (l' := #[.val (.int p0), .val (.long p1), .second, .val (.long p2), .second, .val (.ref s_SELL), .val (.long ((((p0 >>> ((2 : Int32) &&& 31)) &&& (3 : Int32)) - (1 : Int32)).toInt64)), .second, .val (.long p2), .second, .unset, .unset]) rfl ?_
    show Steps p.tables e below (T1.setTop (mkF m 43 #[.val (.int p0), .val (.long p1), .second, .val (.long p2), .second, .val (.ref s_SELL), .val (.long ((((p0 >>> ((2 : Int32) &&& 31)) &&& (3 : Int32)) - (1 : Int32)).toInt64)), .second, .val (.long p2), .second, .unset, .unset] [])) _
    refine XS.aload X1.here hx rfl (hb hby at_43) rfl rfl ?_
    show Steps p.tables e below (T1.setTop (mkF m 45 #[.val (.int p0), .val (.long p1), .second, .val (.long p2), .second, .val (.ref s_SELL), .val (.long ((((p0 >>> ((2 : Int32) &&& 31)) &&& (3 : Int32)) - (1 : Int32)).toInt64)), .second, .val (.long p2), .second, .unset, .unset] [(.ref s_SELL)])) _
    refine XS.lloadN X1.here hx rfl (hb hby at_45) rfl ?_
    show Steps p.tables e below (T1.setTop (mkF m 46 #[.val (.int p0), .val (.long p1), .second, .val (.long p2), .second, .val (.ref s_SELL), .val (.long ((((p0 >>> ((2 : Int32) &&& 31)) &&& (3 : Int32)) - (1 : Int32)).toInt64)), .second, .val (.long p2), .second, .unset, .unset] [(.long p1), (.ref s_SELL)])) _
    refine XS.lload X1.here hx rfl (hb hby at_46) rfl ?_
    show Steps p.tables e below (T1.setTop (mkF m 48 #[.val (.int p0), .val (.long p1), .second, .val (.long p2), .second, .val (.ref s_SELL), .val (.long ((((p0 >>> ((2 : Int32) &&& 31)) &&& (3 : Int32)) - (1 : Int32)).toInt64)), .second, .val (.long p2), .second, .unset, .unset] [(.long p2), (.long p1), (.ref s_SELL)])) _
    refine st2.trans ?_
    show Steps p.tables e below (T2.setTop (mkF m 51 #[.val (.int p0), .val (.long p1), .second, .val (.long p2), .second, .val (.ref s_SELL), .val (.long ((((p0 >>> ((2 : Int32) &&& 31)) &&& (3 : Int32)) - (1 : Int32)).toInt64)), .second, .val (.long p2), .second, .unset, .unset] [(.int (0 : Int32))])) _
    refine XS.istore X2.here hx rfl (hb hby at_51) rfl (l' := #[.val (.int p0), .val (.long p1), .second, .val (.long p2), .second, .val (.ref s_SELL), .val (.long ((((p0 >>> ((2 : Int32) &&& 31)) &&& (3 : Int32)) - (1 : Int32)).toInt64)), .second, .val (.long p2), .second, .val (.int (0 : Int32)), .unset]) rfl ?_
    show Steps p.tables e below (T2.setTop (mkF m 53 #[.val (.int p0), .val (.long p1), .second, .val (.long p2), .second, .val (.ref s_SELL), .val (.long ((((p0 >>> ((2 : Int32) &&& 31)) &&& (3 : Int32)) - (1 : Int32)).toInt64)), .second, .val (.long p2), .second, .val (.int (0 : Int32)), .unset] [])) _
    refine XS.aload X2.here hx rfl (hb hby at_53) rfl rfl ?_
    show Steps p.tables e below (T2.setTop (mkF m 55 #[.val (.int p0), .val (.long p1), .second, .val (.long p2), .second, .val (.ref s_SELL), .val (.long ((((p0 >>> ((2 : Int32) &&& 31)) &&& (3 : Int32)) - (1 : Int32)).toInt64)), .second, .val (.long p2), .second, .val (.int (0 : Int32)), .unset] [(.ref s_SELL)])) _
    refine st3 _ ?_
    show Steps p.tables e below (T3.setTop (mkF m 58 #[.val (.int p0), .val (.long p1), .second, .val (.long p2), .second, .val (.ref s_SELL), .val (.long ((((p0 >>> ((2 : Int32) &&& 31)) &&& (3 : Int32)) - (1 : Int32)).toInt64)), .second, .val (.long p2), .second, .val (.int (0 : Int32)), .unset] [(.ref s_BUY), (.ref s_SELL)])) _
    refine Jvm.RoadKit.acmp (g := (mkF m 58 #[.val (.int p0), .val (.long p1), .second, .val (.long p2), .second, .val (.ref s_SELL), .val (.long ((((p0 >>> ((2 : Int32) &&& 31)) &&& (3 : Int32)) - (1 : Int32)).toInt64)), .second, .val (.long p2), .second, .val (.int (0 : Int32)), .unset] [(.ref s_BUY), (.ref s_SELL)])) X3 hx rfl rfl rfl (pc0 := 58) (pc' := 82) (same := false) rfl (hb hby at_58) rfl (decide_eq_false fun q => (Ne.symm ne_BUY_SELL) (Value.ref.inj q)) (by decide) (by decide) ?_
    show Steps p.tables e below (T3.setTop (mkF m 82 #[.val (.int p0), .val (.long p1), .second, .val (.long p2), .second, .val (.ref s_SELL), .val (.long ((((p0 >>> ((2 : Int32) &&& 31)) &&& (3 : Int32)) - (1 : Int32)).toInt64)), .second, .val (.long p2), .second, .val (.int (0 : Int32)), .unset] [])) _
    refine XS.lloadN X3.here hx rfl (hb hby at_82) rfl ?_
    show Steps p.tables e below (T3.setTop (mkF m 83 #[.val (.int p0), .val (.long p1), .second, .val (.long p2), .second, .val (.ref s_SELL), .val (.long ((((p0 >>> ((2 : Int32) &&& 31)) &&& (3 : Int32)) - (1 : Int32)).toInt64)), .second, .val (.long p2), .second, .val (.int (0 : Int32)), .unset] [(.long p1)])) _
    refine XS.lload X3.here hx rfl (hb hby at_83) rfl ?_
    show Steps p.tables e below (T3.setTop (mkF m 85 #[.val (.int p0), .val (.long p1), .second, .val (.long p2), .second, .val (.ref s_SELL), .val (.long ((((p0 >>> ((2 : Int32) &&& 31)) &&& (3 : Int32)) - (1 : Int32)).toInt64)), .second, .val (.long p2), .second, .val (.int (0 : Int32)), .unset] [(.long p2), (.long p1)])) _
    refine st4 _ ?_
    show Steps p.tables e below (T4.setTop (mkF m 88 #[.val (.int p0), .val (.long p1), .second, .val (.long p2), .second, .val (.ref s_SELL), .val (.long ((((p0 >>> ((2 : Int32) &&& 31)) &&& (3 : Int32)) - (1 : Int32)).toInt64)), .second, .val (.long p2), .second, .val (.int (0 : Int32)), .unset] [(.long p2)])) _
    refine XS.lloadN X4.here hx rfl (hb hby at_88) rfl ?_
    show Steps p.tables e below (T4.setTop (mkF m 89 #[.val (.int p0), .val (.long p1), .second, .val (.long p2), .second, .val (.ref s_SELL), .val (.long ((((p0 >>> ((2 : Int32) &&& 31)) &&& (3 : Int32)) - (1 : Int32)).toInt64)), .second, .val (.long p2), .second, .val (.int (0 : Int32)), .unset] [(.long p1), (.long p2)])) _
    refine XS.lcmp X4.here hx rfl (hb hby at_89) rfl ?_
    show Steps p.tables e below (T4.setTop (mkF m 90 #[.val (.int p0), .val (.long p1), .second, .val (.long p2), .second, .val (.ref s_SELL), .val (.long ((((p0 >>> ((2 : Int32) &&& 31)) &&& (3 : Int32)) - (1 : Int32)).toInt64)), .second, .val (.long p2), .second, .val (.int (0 : Int32)), .unset] [(.int (lcmpW p2 p1))])) _
    rw [own_lc_lt hc]
    show Steps p.tables e below (T4.setTop (mkF m 90 #[.val (.int p0), .val (.long p1), .second, .val (.long p2), .second, .val (.ref s_SELL), .val (.long ((((p0 >>> ((2 : Int32) &&& 31)) &&& (3 : Int32)) - (1 : Int32)).toInt64)), .second, .val (.long p2), .second, .val (.int (0 : Int32)), .unset] [(.int (-1 : Int32))])) _
    refine XS.ifYes X4.here hx rfl (pc0 := 90) (pc' := 97) rfl (hb hby at_90) rfl (by decide +kernel) (by decide) (by decide) ?_
    show Steps p.tables e below (T4.setTop (mkF m 97 #[.val (.int p0), .val (.long p1), .second, .val (.long p2), .second, .val (.ref s_SELL), .val (.long ((((p0 >>> ((2 : Int32) &&& 31)) &&& (3 : Int32)) - (1 : Int32)).toInt64)), .second, .val (.long p2), .second, .val (.int (0 : Int32)), .unset] [])) _
    refine XS.iconst X4.here hx rfl (hb hby at_97) ?_
    show Steps p.tables e below (T4.setTop (mkF m 98 #[.val (.int p0), .val (.long p1), .second, .val (.long p2), .second, .val (.ref s_SELL), .val (.long ((((p0 >>> ((2 : Int32) &&& 31)) &&& (3 : Int32)) - (1 : Int32)).toInt64)), .second, .val (.long p2), .second, .val (.int (0 : Int32)), .unset] [(.int (0 : Int32))])) _
    refine XS.istore X4.here hx rfl (hb hby at_98) rfl (l' := #[.val (.int p0), .val (.long p1), .second, .val (.long p2), .second, .val (.ref s_SELL), .val (.long ((((p0 >>> ((2 : Int32) &&& 31)) &&& (3 : Int32)) - (1 : Int32)).toInt64)), .second, .val (.long p2), .second, .val (.int (0 : Int32)), .val (.int (0 : Int32))]) rfl ?_
    show Steps p.tables e below (T4.setTop (mkF m 100 #[.val (.int p0), .val (.long p1), .second, .val (.long p2), .second, .val (.ref s_SELL), .val (.long ((((p0 >>> ((2 : Int32) &&& 31)) &&& (3 : Int32)) - (1 : Int32)).toInt64)), .second, .val (.long p2), .second, .val (.int (0 : Int32)), .val (.int (0 : Int32))] [])) _
    refine XS.iload X4.here hx rfl (hb hby at_100) rfl ?_
    show Steps p.tables e below (T4.setTop (mkF m 102 #[.val (.int p0), .val (.long p1), .second, .val (.long p2), .second, .val (.ref s_SELL), .val (.long ((((p0 >>> ((2 : Int32) &&& 31)) &&& (3 : Int32)) - (1 : Int32)).toInt64)), .second, .val (.long p2), .second, .val (.int (0 : Int32)), .val (.int (0 : Int32))] [(.int (0 : Int32))])) _
    refine XS.iload X4.here hx rfl (hb hby at_102) rfl ?_
    show Steps p.tables e below (T4.setTop (mkF m 104 #[.val (.int p0), .val (.long p1), .second, .val (.long p2), .second, .val (.ref s_SELL), .val (.long ((((p0 >>> ((2 : Int32) &&& 31)) &&& (3 : Int32)) - (1 : Int32)).toInt64)), .second, .val (.long p2), .second, .val (.int (0 : Int32)), .val (.int (0 : Int32))] [(.int (0 : Int32)), (.int (0 : Int32))])) _
    refine XS.icmpNo X4.here hx rfl (hb hby at_104) rfl (by decide +kernel) ?_
    show Steps p.tables e below (T4.setTop (mkF m 107 #[.val (.int p0), .val (.long p1), .second, .val (.long p2), .second, .val (.ref s_SELL), .val (.long ((((p0 >>> ((2 : Int32) &&& 31)) &&& (3 : Int32)) - (1 : Int32)).toInt64)), .second, .val (.long p2), .second, .val (.int (0 : Int32)), .val (.int (0 : Int32))] [])) _
    refine XS.iconst X4.here hx rfl (hb hby at_107) ?_
    show Steps p.tables e below (T4.setTop (mkF m 108 #[.val (.int p0), .val (.long p1), .second, .val (.long p2), .second, .val (.ref s_SELL), .val (.long ((((p0 >>> ((2 : Int32) &&& 31)) &&& (3 : Int32)) - (1 : Int32)).toInt64)), .second, .val (.long p2), .second, .val (.int (0 : Int32)), .val (.int (0 : Int32))] [(.int (1 : Int32))])) _
    refine XS.goto X4.here hx rfl (pc0 := 108) (pc' := 112) rfl (hb hby at_108) (by decide) (by decide) ?_
    show Steps p.tables e below (T4.setTop (mkF m 112 #[.val (.int p0), .val (.long p1), .second, .val (.long p2), .second, .val (.ref s_SELL), .val (.long ((((p0 >>> ((2 : Int32) &&& 31)) &&& (3 : Int32)) - (1 : Int32)).toInt64)), .second, .val (.long p2), .second, .val (.int (0 : Int32)), .val (.int (0 : Int32))] [(.int (1 : Int32))])) _
    exact retN X4 hx (t := .boolean) Bd.returns (by simp) (hb hby at_112) hr
  · exact ⟨rfl, N4, e4⟩
set_option maxRecDepth 65536 in
set_option maxHeartbeats 40000000 in
theorem r3 (l : Launch) (Z : State) (a0 : Array Value) (hw : ∀ d ∈ tables_1, d.before a0 Z = true) (ws : List Jvm.Cond) (h0 : Heap) (n0 : Nat) (s_SELL : Addr) (s_BUY : Addr) (K : Ctx Z h0 s_SELL s_BUY) (p1 : Int64) (p2 : Int64) (hc : p2 = p1) :
    MetFree l (⟨"com/example/bookfence/bookfence/engine/Side", "allows", "(JJ)Z"⟩ : MethodName) (head1 (Jvm.Cond.code (⟨"com/example/bookfence/bookfence/engine/Side", "allows", "(JJ)Z"⟩ : MethodName) prog_44_method_5_code 5 (some .boolean) :: ws) ({ frames := 0, cells := 0, slots := 0, locals := 0 } : Room)) (fun a U => a = #[(.ref s_SELL), (.long p1), (.long p2)] ∧ Z.Warmed39 U.vm ∧ U.heap = h0) (fun _ _ _ _ _ => True) (fun _ U o U' => ∃ v L, o = .returned v ∧ QV (.int (1 : Int32)) h0 n0 v U'.heap L ∧ FrameEnd U o U' L ({ frames := 0, cells := 0, slots := 0, locals := 0 } : Room).cells ({ frames := 0, cells := 0, slots := 0, locals := 0 } : Room).slots) := by
  obtain ⟨S_SELL, S_BUY, ne_BUY_SELL, E_SELL, E_BUY⟩ := id K
  refine MetFree.of_bodySF (plainFor_of_name pn0) hisR ?_
  intro p e s m args below meth c s₁ Bd hml0 hP hK
  obtain ⟨rfl, hZ, hh⟩ := hP
  have hx := Bd.exec
  have hby := Bd.bytes
  have hml : c.maxLocals = 5 := hml0
  have hown : s.vm.findClass "com/example/bookfence/bookfence/engine/Side" = some m.cls := findClass_of_methodNamed Bd.named
  have X0 : Stand p l e ({ frames := 0, cells := 0, slots := 0, locals := 0 } : Room) s m #[(.ref s_SELL), (.long p1), (.long p2)] below meth c s₁ [] 0 0 := Stand.of_body Bd
  have e0 : s₁.heap = h0 := by rw [← hh, Bd.state]; rfl
  have N0 := Fr.nil n0
  have pre0 : ∀ t, Steps p.tables e below (s₁.setTop (mkF m 0 #[.val (.ref s_SELL), .val (.long p1), .second, .val (.long p2), .second] [])) t → Steps p.tables e below (s₁.setTop (entryFrame m #[(.ref s_SELL), (.long p1), (.long p2)] 5)) t := fun t k => castTop (by first | (simp [entryFrame, mkF, argsToLocals, Value.category]; done) | rfl) k
  obtain ⟨T1, X1, e1, st1⟩ := getS X0 hx hZ hown (host := "") (hw _ (List.mem_of_getElem? (i := 8) rfl)) Via.refl e0 S_BUY (g := (mkF m 1 #[.val (.ref s_SELL), .val (.long p1), .second, .val (.long p2), .second] [(.ref s_SELL)])) rfl (hb hby d0_1)
  obtain ⟨fs, hr, hrun, hended, hW, hsame⟩ := X1.leave (v := some (.int (1 : Int32))) (fun h => by rw [Bd.returns] at h; cases h)
  refine ⟨_, _, pre0 _ ?_, hrun, hended, _, _, rfl, ?_, ⟨_, rfl⟩, hW, hsame.mono (by decide) (by decide)⟩
  · show Steps p.tables e below (s₁.setTop (mkF m 0 #[.val (.ref s_SELL), .val (.long p1), .second, .val (.long p2), .second] [])) _
    refine XS.aloadN X0.here hx rfl (hb hby d0_0) rfl rfl ?_
    show Steps p.tables e below (s₁.setTop (mkF m 1 #[.val (.ref s_SELL), .val (.long p1), .second, .val (.long p2), .second] [(.ref s_SELL)])) _
    refine st1 _ ?_
    show Steps p.tables e below (T1.setTop (mkF m 4 #[.val (.ref s_SELL), .val (.long p1), .second, .val (.long p2), .second] [(.ref s_BUY), (.ref s_SELL)])) _
    refine Jvm.RoadKit.acmp (g := (mkF m 4 #[.val (.ref s_SELL), .val (.long p1), .second, .val (.long p2), .second] [(.ref s_BUY), (.ref s_SELL)])) X1 hx rfl rfl rfl (pc0 := 4) (pc' := 21) (same := false) rfl (hb hby d0_4) rfl (decide_eq_false fun q => (Ne.symm ne_BUY_SELL) (Value.ref.inj q)) (by decide) (by decide) ?_
    show Steps p.tables e below (T1.setTop (mkF m 21 #[.val (.ref s_SELL), .val (.long p1), .second, .val (.long p2), .second] [])) _
    refine XS.lloadN X1.here hx rfl (hb hby d0_21) rfl ?_
    show Steps p.tables e below (T1.setTop (mkF m 22 #[.val (.ref s_SELL), .val (.long p1), .second, .val (.long p2), .second] [(.long p2)])) _
    refine XS.lloadN X1.here hx rfl (hb hby d0_22) rfl ?_
    show Steps p.tables e below (T1.setTop (mkF m 23 #[.val (.ref s_SELL), .val (.long p1), .second, .val (.long p2), .second] [(.long p1), (.long p2)])) _
    refine XS.lcmp X1.here hx rfl (hb hby d0_23) rfl ?_
    show Steps p.tables e below (T1.setTop (mkF m 24 #[.val (.ref s_SELL), .val (.long p1), .second, .val (.long p2), .second] [(.int (lcmpW p2 p1))])) _
    rw [own_lc_eq hc]
    show Steps p.tables e below (T1.setTop (mkF m 24 #[.val (.ref s_SELL), .val (.long p1), .second, .val (.long p2), .second] [(.int (0 : Int32))])) _
    refine XS.ifNo X1.here hx rfl (hb hby d0_24) rfl (by decide +kernel) ?_
    show Steps p.tables e below (T1.setTop (mkF m 27 #[.val (.ref s_SELL), .val (.long p1), .second, .val (.long p2), .second] [])) _
    refine XS.iconst X1.here hx rfl (hb hby d0_27) ?_
    show Steps p.tables e below (T1.setTop (mkF m 28 #[.val (.ref s_SELL), .val (.long p1), .second, .val (.long p2), .second] [(.int (1 : Int32))])) _
    refine XS.goto X1.here hx rfl (pc0 := 28) (pc' := 32) rfl (hb hby d0_28) (by decide) (by decide) ?_
    show Steps p.tables e below (T1.setTop (mkF m 32 #[.val (.ref s_SELL), .val (.long p1), .second, .val (.long p2), .second] [(.int (1 : Int32))])) _
    exact retN X1 hx (t := .boolean) Bd.returns (by simp) (hb hby d0_32) hr
  · exact ⟨rfl, N0, e1⟩
set_option maxRecDepth 65536 in
set_option maxHeartbeats 40000000 in
theorem r4 (l : Launch) (Z : State) (a0 : Array Value) (hw : ∀ d ∈ tables_1, d.before a0 Z = true) (ws : List Jvm.Cond) (h0 : Heap) (n0 : Nat) (s_SELL : Addr) (s_BUY : Addr) (K : Ctx Z h0 s_SELL s_BUY) (p1 : Int64) (p2 : Int64) (hc : p2 = p1) :
    MetFree l (⟨"java/lang/Math", "min", "(JJ)J"⟩ : MethodName) (head1 (Jvm.Cond.code (⟨"java/lang/Math", "min", "(JJ)J"⟩ : MethodName) jdk_29_method_70_code 4 (some .long) :: ws) ({ frames := 0, cells := 0, slots := 0, locals := 0 } : Room)) (fun a U => a = #[(.long p1), (.long p2)] ∧ Z.Warmed39 U.vm ∧ U.heap = h0) (fun _ _ _ _ _ => True) (fun _ U o U' => ∃ v L, o = .returned v ∧ QV (.long p1) h0 n0 v U'.heap L ∧ FrameEnd U o U' L ({ frames := 0, cells := 0, slots := 0, locals := 0 } : Room).cells ({ frames := 0, cells := 0, slots := 0, locals := 0 } : Room).slots) := by
  obtain ⟨S_SELL, S_BUY, ne_BUY_SELL, E_SELL, E_BUY⟩ := id K
  refine MetFree.of_bodySF (Jvm.Free.JP.mathPlain rfl (by decide +kernel)) hisR ?_
  intro p e s m args below meth c s₁ Bd hml0 hP hK
  obtain ⟨rfl, hZ, hh⟩ := hP
  have hx := Bd.exec
  have hby := Bd.bytes
  have hml : c.maxLocals = 4 := hml0
  have hown : s.vm.findClass "java/lang/Math" = some m.cls := findClass_of_methodNamed Bd.named
  have X0 : Stand p l e ({ frames := 0, cells := 0, slots := 0, locals := 0 } : Room) s m #[(.long p1), (.long p2)] below meth c s₁ [] 0 0 := Stand.of_body Bd
  have e0 : s₁.heap = h0 := by rw [← hh, Bd.state]; rfl
  have N0 := Fr.nil n0
  have pre0 : ∀ t, Steps p.tables e below (s₁.setTop (mkF m 0 #[.val (.long p1), .second, .val (.long p2), .second] [])) t → Steps p.tables e below (s₁.setTop (entryFrame m #[(.long p1), (.long p2)] 4)) t := fun t k => castTop (by first | (simp [entryFrame, mkF, argsToLocals, Value.category]; done) | rfl) k
  obtain ⟨fs, hr, hrun, hended, hW, hsame⟩ := X0.leave (v := some (.long p1)) (fun h => by rw [Bd.returns] at h; cases h)
  refine ⟨_, _, pre0 _ ?_, hrun, hended, _, _, rfl, ?_, ⟨_, rfl⟩, hW, hsame.mono (by decide) (by decide)⟩
  · show Steps p.tables e below (s₁.setTop (mkF m 0 #[.val (.long p1), .second, .val (.long p2), .second] [])) _
    refine XS.lloadN X0.here hx rfl (hb hby d1_0) rfl ?_
    show Steps p.tables e below (s₁.setTop (mkF m 1 #[.val (.long p1), .second, .val (.long p2), .second] [(.long p1)])) _
    refine XS.lloadN X0.here hx rfl (hb hby d1_1) rfl ?_
    show Steps p.tables e below (s₁.setTop (mkF m 2 #[.val (.long p1), .second, .val (.long p2), .second] [(.long p2), (.long p1)])) _
    refine XS.lcmp X0.here hx rfl (hb hby d1_2) rfl ?_
    show Steps p.tables e below (s₁.setTop (mkF m 3 #[.val (.long p1), .second, .val (.long p2), .second] [(.int (lcmpW p1 p2))])) _
    rw [own_lr_eq hc]
    show Steps p.tables e below (s₁.setTop (mkF m 3 #[.val (.long p1), .second, .val (.long p2), .second] [(.int (0 : Int32))])) _
    refine XS.ifNo X0.here hx rfl (hb hby d1_3) rfl (by decide +kernel) ?_
    show Steps p.tables e below (s₁.setTop (mkF m 6 #[.val (.long p1), .second, .val (.long p2), .second] [])) _
    refine XS.lloadN X0.here hx rfl (hb hby d1_6) rfl ?_
    show Steps p.tables e below (s₁.setTop (mkF m 7 #[.val (.long p1), .second, .val (.long p2), .second] [(.long p1)])) _
    refine XS.goto X0.here hx rfl (pc0 := 7) (pc' := 11) rfl (hb hby d1_7) (by decide) (by decide) ?_
    show Steps p.tables e below (s₁.setTop (mkF m 11 #[.val (.long p1), .second, .val (.long p2), .second] [(.long p1)])) _
    exact retOut X0 hx (i := .lreturn) Bd.returns rfl (Or.inr (Or.inl ⟨rfl, rfl, _, rfl⟩)) (hb hby d1_11) hr
  · exact ⟨rfl, N0, e0⟩
set_option maxRecDepth 65536 in
set_option maxHeartbeats 40000000 in
theorem law_k0_0_eq (l : Launch) (Z : State) (a0 : Array Value) (hw : ∀ d ∈ tables_1, d.before a0 Z = true) (ws : List Jvm.Cond) (h0 : Heap) (n0 : Nat) (s_SELL : Addr) (s_BUY : Addr) (K : Ctx Z h0 s_SELL s_BUY) (p0 : Int32) (p1 : Int64) (p2 : Int64) (ha : (p0 &&& (1 : Int32)) = (0 : Int32)) (hb1 : (p0 &&& (2 : Int32)) = (0 : Int32)) (hc : p2 = p1) :
    MetFree l x (head1 (Jvm.Cond.code x code maxLocals ret :: ws) room_1) (fun a U => a = #[(.int p0), (.long p1), (.long p2)] ∧ Z.Warmed39 U.vm ∧ U.heap = h0) (fun _ _ _ _ _ => True) (fun _ U o U' => ∃ v L, o = .returned v ∧ QV (.int (1 : Int32)) h0 n0 v U'.heap L ∧ FrameEnd U o U' L room_1.cells room_1.slots) := by
  obtain ⟨S_SELL, S_BUY, ne_BUY_SELL, E_SELL, E_BUY⟩ := id K
  refine MetFree.of_bodySF (plainFor_of_name pn3) hisR ?_
  intro p e s m args below meth c s₁ Bd hml0 hP hK
  obtain ⟨rfl, hZ, hh⟩ := hP
  have hx := Bd.exec
  have hby := Bd.bytes
  have hml : c.maxLocals = 12 := hml0
  have hown : s.vm.findClass "com/example/bookfence/bookfence/engine/SideAllowsPinLaw" = some m.cls := findClass_of_methodNamed Bd.named
  have X0 : Stand p l e room_1 s m #[(.int p0), (.long p1), (.long p2)] below meth c s₁ [] 0 0 := Stand.of_body Bd
  have e0 : s₁.heap = h0 := by rw [← hh, Bd.state]; rfl
  have N0 := Fr.nil n0
  have pre0 : ∀ t, Steps p.tables e below (s₁.setTop (mkF m 0 #[.val (.int p0), .val (.long p1), .second, .val (.long p2), .second, .unset, .unset, .unset, .unset, .unset, .unset, .unset] [])) t → Steps p.tables e below (s₁.setTop (entryFrame m #[(.int p0), (.long p1), (.long p2)] maxLocals)) t := fun t k => castTop (by first | (simp [entryFrame, mkF, argsToLocals, Value.category, maxLocals]; done) | rfl) k
  obtain ⟨T1, X1, e1, st1⟩ := getS X0 hx hZ hown (host := "") (hw _ (List.mem_of_getElem? (i := 0) rfl)) Via.refl e0 S_SELL (g := (mkF m 12 #[.val (.int p0), .val (.long p1), .second, .val (.long p2), .second, .unset, .unset, .unset, .unset, .unset, .unset, .unset] [])) rfl (hb hby at_12)
  obtain ⟨cq2, kq2, q2a, q2b, q2c⟩ := isOf hZ e1 E_SELL
  obtain ⟨_, _, ⟨T2, L2, k2, n2⟩, -, X2, ⟨Lc2, hQ2, l2, y2, z2⟩, st2⟩ := X1.virtualBack hx (y := (⟨"com/example/bookfence/bookfence/engine/Side", "allows", "(JJ)Z"⟩ : MethodName)) (z := (⟨"com/example/bookfence/bookfence/engine/Side", "allows", "(JJ)Z"⟩ : MethodName)) hown (mvT hZ (hw _ (List.mem_of_getElem? (i := 3) rfl))) (mvT hZ (hw _ (List.mem_of_getElem? (i := 4) rfl))) (notFace_of_selects (args := #[]) (mvT hZ (hw _ (List.mem_of_getElem? (i := 6) rfl)))) (mvT hZ (hw _ (List.mem_of_getElem? (i := 6) rfl))) (mvT hZ (hw _ (List.mem_of_getElem? (i := 5) rfl))) (by decide) (backOf (W := 0) (r3 l Z a0 hw [] h0 n0 s_SELL s_BUY K p1 p2 hc) hZ (hw _ (List.mem_of_getElem? (i := 7) rfl)) (hw _ (List.mem_of_getElem? (i := 1) rfl)) (by decide) (by decide)) q2a q2c (g := (mkF m 48 #[.val (.int p0), .val (.long p1), .second, .val (.long p2), .second, .val (.ref s_SELL), .val (.long ((((p0 >>> ((2 : Int32) &&& 31)) &&& (3 : Int32)) - (1 : Int32)).toInt64)), .second, .val (.long p2), .second, .unset, .unset] [(.long p2), (.long p1), (.ref s_SELL)])) rfl (by rw [hml]; rfl) (Steps.refl _) (argsL := [(.long p1), (.long p2)]) (rest := []) (lenOf pd0 rfl) rfl (by show 2 * 0 + _ ≤ _; exact Nat.le_of_eq rfl) (hb hby at_48) (fun _ _ => ⟨rfl, e1, (by decide : 0 + 0 ≤ _), (by decide : 0 + 0 ≤ _)⟩)
  dsimp only [Pt.U, Pt.locs, Pt.cells, Pt.slots] at X2 l2 y2 z2 st2 hQ2
  subst l2 y2 z2
  obtain ⟨rfl, N2q, e2⟩ := hQ2
  have N2 := Fr.app N0 N2q
  obtain ⟨T3, X3, e3, st3⟩ := getS X2 hx hZ hown (host := "") (hw _ (List.mem_of_getElem? (i := 10) rfl)) Via.refl e2 S_BUY (g := (mkF m 55 #[.val (.int p0), .val (.long p1), .second, .val (.long p2), .second, .val (.ref s_SELL), .val (.long ((((p0 >>> ((2 : Int32) &&& 31)) &&& (3 : Int32)) - (1 : Int32)).toInt64)), .second, .val (.long p2), .second, .val (.int (1 : Int32)), .unset] [(.ref s_SELL)])) rfl (hb hby at_55)
  obtain ⟨_, _, ⟨T4, L4, k4, n4⟩, -, X4, ⟨Lc4, hQ4, l4, y4, z4⟩, st4⟩ := Jvm.LawKit.callS X3 hx (y := (⟨"java/lang/Math", "min", "(JJ)J"⟩ : MethodName)) hown (mvT hZ (hw _ (List.mem_of_getElem? (i := 11) rfl))) (mvT hZ (hw _ (List.mem_of_getElem? (i := 12) rfl))) (mvT hZ (hw _ (List.mem_of_getElem? (i := 13) rfl))) (mvT hZ (hw _ (List.mem_of_getElem? (i := 14) rfl))) (by decide) (backOf (W := 0) (r4 l Z a0 hw [] h0 n0 s_SELL s_BUY K p1 p2 hc) hZ (hw _ (List.mem_of_getElem? (i := 14) rfl)) (hw _ (List.mem_of_getElem? (i := 13) rfl)) (by decide) (by decide)) (g := (mkF m 85 #[.val (.int p0), .val (.long p1), .second, .val (.long p2), .second, .val (.ref s_SELL), .val (.long ((((p0 >>> ((2 : Int32) &&& 31)) &&& (3 : Int32)) - (1 : Int32)).toInt64)), .second, .val (.long p2), .second, .val (.int (1 : Int32)), .unset] [(.long p2), (.long p1)])) rfl (by rw [hml]; rfl) (argsL := [(.long p1), (.long p2)]) (rest := []) (lenOf pd1 rfl) rfl (by show 2 * 0 + _ ≤ _; exact Nat.le_of_eq rfl) (hb hby at_85) (fun _ _ => ⟨rfl, e3, (by decide : 0 + 0 ≤ _), (by decide : 0 + 0 ≤ _)⟩)
  dsimp only [Pt.U, Pt.locs, Pt.cells, Pt.slots] at X4 l4 y4 z4 st4 hQ4
  subst l4 y4 z4
  obtain ⟨rfl, N4q, e4⟩ := hQ4
  have N4 := Fr.app N2 N4q
  obtain ⟨fs, hr, hrun, hended, hW, hsame⟩ := X4.leave (v := some (.int (1 : Int32))) (fun h => by rw [Bd.returns] at h; cases h)
  refine ⟨_, _, pre0 _ ?_, hrun, hended, _, _, rfl, ?_, ⟨_, rfl⟩, hW, hsame.mono (by decide) (by decide)⟩
  · show Steps p.tables e below (s₁.setTop (mkF m 0 #[.val (.int p0), .val (.long p1), .second, .val (.long p2), .second, .unset, .unset, .unset, .unset, .unset, .unset, .unset] [])) _
    refine XS.iloadN X0.here hx rfl (hb hby at_0) rfl ?_
    show Steps p.tables e below (s₁.setTop (mkF m 1 #[.val (.int p0), .val (.long p1), .second, .val (.long p2), .second, .unset, .unset, .unset, .unset, .unset, .unset, .unset] [(.int p0)])) _
    refine XS.iconst X0.here hx rfl (hb hby at_1) ?_
    show Steps p.tables e below (s₁.setTop (mkF m 2 #[.val (.int p0), .val (.long p1), .second, .val (.long p2), .second, .unset, .unset, .unset, .unset, .unset, .unset, .unset] [(.int (1 : Int32)), (.int p0)])) _
    refine XS.iand X0.here hx rfl (hb hby at_2) rfl ?_
    show Steps p.tables e below (s₁.setTop (mkF m 3 #[.val (.int p0), .val (.long p1), .second, .val (.long p2), .second, .unset, .unset, .unset, .unset, .unset, .unset, .unset] [(.int (p0 &&& (1 : Int32)))])) _
    rw [ha]
    show Steps p.tables e below (s₁.setTop (mkF m 3 #[.val (.int p0), .val (.long p1), .second, .val (.long p2), .second, .unset, .unset, .unset, .unset, .unset, .unset, .unset] [(.int (0 : Int32))])) _
    refine XS.ifYes X0.here hx rfl (pc0 := 3) (pc' := 12) rfl (hb hby at_3) rfl (by decide +kernel) (by decide) (by decide) ?_
    show Steps p.tables e below (s₁.setTop (mkF m 12 #[.val (.int p0), .val (.long p1), .second, .val (.long p2), .second, .unset, .unset, .unset, .unset, .unset, .unset, .unset] [])) _
    refine st1 _ ?_
    show Steps p.tables e below (T1.setTop (mkF m 15 #[.val (.int p0), .val (.long p1), .second, .val (.long p2), .second, .unset, .unset, .unset, .unset, .unset, .unset, .unset] [(.ref s_SELL)])) _
    refine XS.astore X1.here hx rfl (hb hby at_15) rfl rfl (l' := #[.val (.int p0), .val (.long p1), .second, .val (.long p2), .second, .val (.ref s_SELL), .unset, .unset, .unset, .unset, .unset, .unset]) rfl ?_
    show Steps p.tables e below (T1.setTop (mkF m 17 #[.val (.int p0), .val (.long p1), .second, .val (.long p2), .second, .val (.ref s_SELL), .unset, .unset, .unset, .unset, .unset, .unset] [])) _
    refine XS.iloadN X1.here hx rfl (hb hby at_17) rfl ?_
    show Steps p.tables e below (T1.setTop (mkF m 18 #[.val (.int p0), .val (.long p1), .second, .val (.long p2), .second, .val (.ref s_SELL), .unset, .unset, .unset, .unset, .unset, .unset] [(.int p0)])) _
    refine XS.iconst X1.here hx rfl (hb hby at_18) ?_
    show Steps p.tables e below (T1.setTop (mkF m 19 #[.val (.int p0), .val (.long p1), .second, .val (.long p2), .second, .val (.ref s_SELL), .unset, .unset, .unset, .unset, .unset, .unset] [(.int (2 : Int32)), (.int p0)])) _
    refine XS.ishr X1.here hx rfl (hb hby at_19) rfl ?_
    show Steps p.tables e below (T1.setTop (mkF m 20 #[.val (.int p0), .val (.long p1), .second, .val (.long p2), .second, .val (.ref s_SELL), .unset, .unset, .unset, .unset, .unset, .unset] [(.int (p0 >>> ((2 : Int32) &&& 31)))])) _
    refine XS.iconst X1.here hx rfl (hb hby at_20) ?_
    show Steps p.tables e below (T1.setTop (mkF m 21 #[.val (.int p0), .val (.long p1), .second, .val (.long p2), .second, .val (.ref s_SELL), .unset, .unset, .unset, .unset, .unset, .unset] [(.int (3 : Int32)), (.int (p0 >>> ((2 : Int32) &&& 31)))])) _
    refine XS.iand X1.here hx rfl (hb hby at_21) rfl ?_
    show Steps p.tables e below (T1.setTop (mkF m 22 #[.val (.int p0), .val (.long p1), .second, .val (.long p2), .second, .val (.ref s_SELL), .unset, .unset, .unset, .unset, .unset, .unset] [(.int ((p0 >>> ((2 : Int32) &&& 31)) &&& (3 : Int32)))])) _
    refine XS.iconst X1.here hx rfl (hb hby at_22) ?_
    show Steps p.tables e below (T1.setTop (mkF m 23 #[.val (.int p0), .val (.long p1), .second, .val (.long p2), .second, .val (.ref s_SELL), .unset, .unset, .unset, .unset, .unset, .unset] [(.int (1 : Int32)), (.int ((p0 >>> ((2 : Int32) &&& 31)) &&& (3 : Int32)))])) _
    refine XS.isub X1.here hx rfl (hb hby at_23) rfl ?_
    show Steps p.tables e below (T1.setTop (mkF m 24 #[.val (.int p0), .val (.long p1), .second, .val (.long p2), .second, .val (.ref s_SELL), .unset, .unset, .unset, .unset, .unset, .unset] [(.int (((p0 >>> ((2 : Int32) &&& 31)) &&& (3 : Int32)) - (1 : Int32)))])) _
    refine XS.i2l X1.here hx rfl (hb hby at_24) rfl ?_
    show Steps p.tables e below (T1.setTop (mkF m 25 #[.val (.int p0), .val (.long p1), .second, .val (.long p2), .second, .val (.ref s_SELL), .unset, .unset, .unset, .unset, .unset, .unset] [(.long ((((p0 >>> ((2 : Int32) &&& 31)) &&& (3 : Int32)) - (1 : Int32)).toInt64))])) _
    refine XS.lstore X1.here hx rfl (hb hby at_25) rfl (l' := #[.val (.int p0), .val (.long p1), .second, .val (.long p2), .second, .val (.ref s_SELL), .val (.long ((((p0 >>> ((2 : Int32) &&& 31)) &&& (3 : Int32)) - (1 : Int32)).toInt64)), .second, .unset, .unset, .unset, .unset]) rfl ?_
    show Steps p.tables e below (T1.setTop (mkF m 27 #[.val (.int p0), .val (.long p1), .second, .val (.long p2), .second, .val (.ref s_SELL), .val (.long ((((p0 >>> ((2 : Int32) &&& 31)) &&& (3 : Int32)) - (1 : Int32)).toInt64)), .second, .unset, .unset, .unset, .unset] [])) _
    refine XS.iloadN X1.here hx rfl (hb hby at_27) rfl ?_
    show Steps p.tables e below (T1.setTop (mkF m 28 #[.val (.int p0), .val (.long p1), .second, .val (.long p2), .second, .val (.ref s_SELL), .val (.long ((((p0 >>> ((2 : Int32) &&& 31)) &&& (3 : Int32)) - (1 : Int32)).toInt64)), .second, .unset, .unset, .unset, .unset] [(.int p0)])) _
    refine XS.iconst X1.here hx rfl (hb hby at_28) ?_
    show Steps p.tables e below (T1.setTop (mkF m 29 #[.val (.int p0), .val (.long p1), .second, .val (.long p2), .second, .val (.ref s_SELL), .val (.long ((((p0 >>> ((2 : Int32) &&& 31)) &&& (3 : Int32)) - (1 : Int32)).toInt64)), .second, .unset, .unset, .unset, .unset] [(.int (2 : Int32)), (.int p0)])) _
    refine XS.iand X1.here hx rfl (hb hby at_29) rfl ?_
    show Steps p.tables e below (T1.setTop (mkF m 30 #[.val (.int p0), .val (.long p1), .second, .val (.long p2), .second, .val (.ref s_SELL), .val (.long ((((p0 >>> ((2 : Int32) &&& 31)) &&& (3 : Int32)) - (1 : Int32)).toInt64)), .second, .unset, .unset, .unset, .unset] [(.int (p0 &&& (2 : Int32)))])) _
    rw [hb1]
    show Steps p.tables e below (T1.setTop (mkF m 30 #[.val (.int p0), .val (.long p1), .second, .val (.long p2), .second, .val (.ref s_SELL), .val (.long ((((p0 >>> ((2 : Int32) &&& 31)) &&& (3 : Int32)) - (1 : Int32)).toInt64)), .second, .unset, .unset, .unset, .unset] [(.int (0 : Int32))])) _
    refine XS.ifYes X1.here hx rfl (pc0 := 30) (pc' := 40) rfl (hb hby at_30) rfl (by decide +kernel) (by decide) (by decide) ?_
    show Steps p.tables e below (T1.setTop (mkF m 40 #[.val (.int p0), .val (.long p1), .second, .val (.long p2), .second, .val (.ref s_SELL), .val (.long ((((p0 >>> ((2 : Int32) &&& 31)) &&& (3 : Int32)) - (1 : Int32)).toInt64)), .second, .unset, .unset, .unset, .unset] [])) _
    refine XS.lloadN X1.here hx rfl (hb hby at_40) rfl ?_
    show Steps p.tables e below (T1.setTop (mkF m 41 #[.val (.int p0), .val (.long p1), .second, .val (.long p2), .second, .val (.ref s_SELL), .val (.long ((((p0 >>> ((2 : Int32) &&& 31)) &&& (3 : Int32)) - (1 : Int32)).toInt64)), .second, .unset, .unset, .unset, .unset] [(.long p2)])) _
    refine XS.lstore X1.here hx rfl (hb hby at_41) rfl (l' := #[.val (.int p0), .val (.long p1), .second, .val (.long p2), .second, .val (.ref s_SELL), .val (.long ((((p0 >>> ((2 : Int32) &&& 31)) &&& (3 : Int32)) - (1 : Int32)).toInt64)), .second, .val (.long p2), .second, .unset, .unset]) rfl ?_
    show Steps p.tables e below (T1.setTop (mkF m 43 #[.val (.int p0), .val (.long p1), .second, .val (.long p2), .second, .val (.ref s_SELL), .val (.long ((((p0 >>> ((2 : Int32) &&& 31)) &&& (3 : Int32)) - (1 : Int32)).toInt64)), .second, .val (.long p2), .second, .unset, .unset] [])) _
    refine XS.aload X1.here hx rfl (hb hby at_43) rfl rfl ?_
    show Steps p.tables e below (T1.setTop (mkF m 45 #[.val (.int p0), .val (.long p1), .second, .val (.long p2), .second, .val (.ref s_SELL), .val (.long ((((p0 >>> ((2 : Int32) &&& 31)) &&& (3 : Int32)) - (1 : Int32)).toInt64)), .second, .val (.long p2), .second, .unset, .unset] [(.ref s_SELL)])) _
    refine XS.lloadN X1.here hx rfl (hb hby at_45) rfl ?_
    show Steps p.tables e below (T1.setTop (mkF m 46 #[.val (.int p0), .val (.long p1), .second, .val (.long p2), .second, .val (.ref s_SELL), .val (.long ((((p0 >>> ((2 : Int32) &&& 31)) &&& (3 : Int32)) - (1 : Int32)).toInt64)), .second, .val (.long p2), .second, .unset, .unset] [(.long p1), (.ref s_SELL)])) _
    refine XS.lload X1.here hx rfl (hb hby at_46) rfl ?_
    show Steps p.tables e below (T1.setTop (mkF m 48 #[.val (.int p0), .val (.long p1), .second, .val (.long p2), .second, .val (.ref s_SELL), .val (.long ((((p0 >>> ((2 : Int32) &&& 31)) &&& (3 : Int32)) - (1 : Int32)).toInt64)), .second, .val (.long p2), .second, .unset, .unset] [(.long p2), (.long p1), (.ref s_SELL)])) _
    refine st2.trans ?_
    show Steps p.tables e below (T2.setTop (mkF m 51 #[.val (.int p0), .val (.long p1), .second, .val (.long p2), .second, .val (.ref s_SELL), .val (.long ((((p0 >>> ((2 : Int32) &&& 31)) &&& (3 : Int32)) - (1 : Int32)).toInt64)), .second, .val (.long p2), .second, .unset, .unset] [(.int (1 : Int32))])) _
    refine XS.istore X2.here hx rfl (hb hby at_51) rfl (l' := #[.val (.int p0), .val (.long p1), .second, .val (.long p2), .second, .val (.ref s_SELL), .val (.long ((((p0 >>> ((2 : Int32) &&& 31)) &&& (3 : Int32)) - (1 : Int32)).toInt64)), .second, .val (.long p2), .second, .val (.int (1 : Int32)), .unset]) rfl ?_
    show Steps p.tables e below (T2.setTop (mkF m 53 #[.val (.int p0), .val (.long p1), .second, .val (.long p2), .second, .val (.ref s_SELL), .val (.long ((((p0 >>> ((2 : Int32) &&& 31)) &&& (3 : Int32)) - (1 : Int32)).toInt64)), .second, .val (.long p2), .second, .val (.int (1 : Int32)), .unset] [])) _
    refine XS.aload X2.here hx rfl (hb hby at_53) rfl rfl ?_
    show Steps p.tables e below (T2.setTop (mkF m 55 #[.val (.int p0), .val (.long p1), .second, .val (.long p2), .second, .val (.ref s_SELL), .val (.long ((((p0 >>> ((2 : Int32) &&& 31)) &&& (3 : Int32)) - (1 : Int32)).toInt64)), .second, .val (.long p2), .second, .val (.int (1 : Int32)), .unset] [(.ref s_SELL)])) _
    refine st3 _ ?_
    show Steps p.tables e below (T3.setTop (mkF m 58 #[.val (.int p0), .val (.long p1), .second, .val (.long p2), .second, .val (.ref s_SELL), .val (.long ((((p0 >>> ((2 : Int32) &&& 31)) &&& (3 : Int32)) - (1 : Int32)).toInt64)), .second, .val (.long p2), .second, .val (.int (1 : Int32)), .unset] [(.ref s_BUY), (.ref s_SELL)])) _
    refine Jvm.RoadKit.acmp (g := (mkF m 58 #[.val (.int p0), .val (.long p1), .second, .val (.long p2), .second, .val (.ref s_SELL), .val (.long ((((p0 >>> ((2 : Int32) &&& 31)) &&& (3 : Int32)) - (1 : Int32)).toInt64)), .second, .val (.long p2), .second, .val (.int (1 : Int32)), .unset] [(.ref s_BUY), (.ref s_SELL)])) X3 hx rfl rfl rfl (pc0 := 58) (pc' := 82) (same := false) rfl (hb hby at_58) rfl (decide_eq_false fun q => (Ne.symm ne_BUY_SELL) (Value.ref.inj q)) (by decide) (by decide) ?_
    show Steps p.tables e below (T3.setTop (mkF m 82 #[.val (.int p0), .val (.long p1), .second, .val (.long p2), .second, .val (.ref s_SELL), .val (.long ((((p0 >>> ((2 : Int32) &&& 31)) &&& (3 : Int32)) - (1 : Int32)).toInt64)), .second, .val (.long p2), .second, .val (.int (1 : Int32)), .unset] [])) _
    refine XS.lloadN X3.here hx rfl (hb hby at_82) rfl ?_
    show Steps p.tables e below (T3.setTop (mkF m 83 #[.val (.int p0), .val (.long p1), .second, .val (.long p2), .second, .val (.ref s_SELL), .val (.long ((((p0 >>> ((2 : Int32) &&& 31)) &&& (3 : Int32)) - (1 : Int32)).toInt64)), .second, .val (.long p2), .second, .val (.int (1 : Int32)), .unset] [(.long p1)])) _
    refine XS.lload X3.here hx rfl (hb hby at_83) rfl ?_
    show Steps p.tables e below (T3.setTop (mkF m 85 #[.val (.int p0), .val (.long p1), .second, .val (.long p2), .second, .val (.ref s_SELL), .val (.long ((((p0 >>> ((2 : Int32) &&& 31)) &&& (3 : Int32)) - (1 : Int32)).toInt64)), .second, .val (.long p2), .second, .val (.int (1 : Int32)), .unset] [(.long p2), (.long p1)])) _
    refine st4 _ ?_
    show Steps p.tables e below (T4.setTop (mkF m 88 #[.val (.int p0), .val (.long p1), .second, .val (.long p2), .second, .val (.ref s_SELL), .val (.long ((((p0 >>> ((2 : Int32) &&& 31)) &&& (3 : Int32)) - (1 : Int32)).toInt64)), .second, .val (.long p2), .second, .val (.int (1 : Int32)), .unset] [(.long p1)])) _
    refine XS.lloadN X4.here hx rfl (hb hby at_88) rfl ?_
    show Steps p.tables e below (T4.setTop (mkF m 89 #[.val (.int p0), .val (.long p1), .second, .val (.long p2), .second, .val (.ref s_SELL), .val (.long ((((p0 >>> ((2 : Int32) &&& 31)) &&& (3 : Int32)) - (1 : Int32)).toInt64)), .second, .val (.long p2), .second, .val (.int (1 : Int32)), .unset] [(.long p1), (.long p1)])) _
    refine XS.lcmp X4.here hx rfl (hb hby at_89) rfl ?_
    show Steps p.tables e below (T4.setTop (mkF m 90 #[.val (.int p0), .val (.long p1), .second, .val (.long p2), .second, .val (.ref s_SELL), .val (.long ((((p0 >>> ((2 : Int32) &&& 31)) &&& (3 : Int32)) - (1 : Int32)).toInt64)), .second, .val (.long p2), .second, .val (.int (1 : Int32)), .unset] [(.int (lcmpW p1 p1))])) _
    rw [own_lc_eq (rfl : p1 = p1)]
    show Steps p.tables e below (T4.setTop (mkF m 90 #[.val (.int p0), .val (.long p1), .second, .val (.long p2), .second, .val (.ref s_SELL), .val (.long ((((p0 >>> ((2 : Int32) &&& 31)) &&& (3 : Int32)) - (1 : Int32)).toInt64)), .second, .val (.long p2), .second, .val (.int (1 : Int32)), .unset] [(.int (0 : Int32))])) _
    refine XS.ifNo X4.here hx rfl (hb hby at_90) rfl (by decide +kernel) ?_
    show Steps p.tables e below (T4.setTop (mkF m 93 #[.val (.int p0), .val (.long p1), .second, .val (.long p2), .second, .val (.ref s_SELL), .val (.long ((((p0 >>> ((2 : Int32) &&& 31)) &&& (3 : Int32)) - (1 : Int32)).toInt64)), .second, .val (.long p2), .second, .val (.int (1 : Int32)), .unset] [])) _
    refine XS.iconst X4.here hx rfl (hb hby at_93) ?_
    show Steps p.tables e below (T4.setTop (mkF m 94 #[.val (.int p0), .val (.long p1), .second, .val (.long p2), .second, .val (.ref s_SELL), .val (.long ((((p0 >>> ((2 : Int32) &&& 31)) &&& (3 : Int32)) - (1 : Int32)).toInt64)), .second, .val (.long p2), .second, .val (.int (1 : Int32)), .unset] [(.int (1 : Int32))])) _
    refine XS.goto X4.here hx rfl (pc0 := 94) (pc' := 98) rfl (hb hby at_94) (by decide) (by decide) ?_
    show Steps p.tables e below (T4.setTop (mkF m 98 #[.val (.int p0), .val (.long p1), .second, .val (.long p2), .second, .val (.ref s_SELL), .val (.long ((((p0 >>> ((2 : Int32) &&& 31)) &&& (3 : Int32)) - (1 : Int32)).toInt64)), .second, .val (.long p2), .second, .val (.int (1 : Int32)), .unset] [(.int (1 : Int32))])) _
    refine XS.istore X4.here hx rfl (hb hby at_98) rfl (l' := #[.val (.int p0), .val (.long p1), .second, .val (.long p2), .second, .val (.ref s_SELL), .val (.long ((((p0 >>> ((2 : Int32) &&& 31)) &&& (3 : Int32)) - (1 : Int32)).toInt64)), .second, .val (.long p2), .second, .val (.int (1 : Int32)), .val (.int (1 : Int32))]) rfl ?_
    show Steps p.tables e below (T4.setTop (mkF m 100 #[.val (.int p0), .val (.long p1), .second, .val (.long p2), .second, .val (.ref s_SELL), .val (.long ((((p0 >>> ((2 : Int32) &&& 31)) &&& (3 : Int32)) - (1 : Int32)).toInt64)), .second, .val (.long p2), .second, .val (.int (1 : Int32)), .val (.int (1 : Int32))] [])) _
    refine XS.iload X4.here hx rfl (hb hby at_100) rfl ?_
    show Steps p.tables e below (T4.setTop (mkF m 102 #[.val (.int p0), .val (.long p1), .second, .val (.long p2), .second, .val (.ref s_SELL), .val (.long ((((p0 >>> ((2 : Int32) &&& 31)) &&& (3 : Int32)) - (1 : Int32)).toInt64)), .second, .val (.long p2), .second, .val (.int (1 : Int32)), .val (.int (1 : Int32))] [(.int (1 : Int32))])) _
    refine XS.iload X4.here hx rfl (hb hby at_102) rfl ?_
    show Steps p.tables e below (T4.setTop (mkF m 104 #[.val (.int p0), .val (.long p1), .second, .val (.long p2), .second, .val (.ref s_SELL), .val (.long ((((p0 >>> ((2 : Int32) &&& 31)) &&& (3 : Int32)) - (1 : Int32)).toInt64)), .second, .val (.long p2), .second, .val (.int (1 : Int32)), .val (.int (1 : Int32))] [(.int (1 : Int32)), (.int (1 : Int32))])) _
    refine XS.icmpNo X4.here hx rfl (hb hby at_104) rfl (by decide +kernel) ?_
    show Steps p.tables e below (T4.setTop (mkF m 107 #[.val (.int p0), .val (.long p1), .second, .val (.long p2), .second, .val (.ref s_SELL), .val (.long ((((p0 >>> ((2 : Int32) &&& 31)) &&& (3 : Int32)) - (1 : Int32)).toInt64)), .second, .val (.long p2), .second, .val (.int (1 : Int32)), .val (.int (1 : Int32))] [])) _
    refine XS.iconst X4.here hx rfl (hb hby at_107) ?_
    show Steps p.tables e below (T4.setTop (mkF m 108 #[.val (.int p0), .val (.long p1), .second, .val (.long p2), .second, .val (.ref s_SELL), .val (.long ((((p0 >>> ((2 : Int32) &&& 31)) &&& (3 : Int32)) - (1 : Int32)).toInt64)), .second, .val (.long p2), .second, .val (.int (1 : Int32)), .val (.int (1 : Int32))] [(.int (1 : Int32))])) _
    refine XS.goto X4.here hx rfl (pc0 := 108) (pc' := 112) rfl (hb hby at_108) (by decide) (by decide) ?_
    show Steps p.tables e below (T4.setTop (mkF m 112 #[.val (.int p0), .val (.long p1), .second, .val (.long p2), .second, .val (.ref s_SELL), .val (.long ((((p0 >>> ((2 : Int32) &&& 31)) &&& (3 : Int32)) - (1 : Int32)).toInt64)), .second, .val (.long p2), .second, .val (.int (1 : Int32)), .val (.int (1 : Int32))] [(.int (1 : Int32))])) _
    exact retN X4 hx (t := .boolean) Bd.returns (by simp) (hb hby at_112) hr
  · exact ⟨rfl, N4, e4⟩
set_option maxRecDepth 65536 in
set_option maxHeartbeats 40000000 in
theorem r6 (l : Launch) (Z : State) (a0 : Array Value) (hw : ∀ d ∈ tables_1, d.before a0 Z = true) (ws : List Jvm.Cond) (h0 : Heap) (n0 : Nat) (s_SELL : Addr) (s_BUY : Addr) (K : Ctx Z h0 s_SELL s_BUY) (p1 : Int64) (p2 : Int64) (hc : p1 < p2) :
    MetFree l (⟨"com/example/bookfence/bookfence/engine/Side", "allows", "(JJ)Z"⟩ : MethodName) (head1 (Jvm.Cond.code (⟨"com/example/bookfence/bookfence/engine/Side", "allows", "(JJ)Z"⟩ : MethodName) prog_44_method_5_code 5 (some .boolean) :: ws) ({ frames := 0, cells := 0, slots := 0, locals := 0 } : Room)) (fun a U => a = #[(.ref s_SELL), (.long p1), (.long p2)] ∧ Z.Warmed39 U.vm ∧ U.heap = h0) (fun _ _ _ _ _ => True) (fun _ U o U' => ∃ v L, o = .returned v ∧ QV (.int (1 : Int32)) h0 n0 v U'.heap L ∧ FrameEnd U o U' L ({ frames := 0, cells := 0, slots := 0, locals := 0 } : Room).cells ({ frames := 0, cells := 0, slots := 0, locals := 0 } : Room).slots) := by
  obtain ⟨S_SELL, S_BUY, ne_BUY_SELL, E_SELL, E_BUY⟩ := id K
  refine MetFree.of_bodySF (plainFor_of_name pn0) hisR ?_
  intro p e s m args below meth c s₁ Bd hml0 hP hK
  obtain ⟨rfl, hZ, hh⟩ := hP
  have hx := Bd.exec
  have hby := Bd.bytes
  have hml : c.maxLocals = 5 := hml0
  have hown : s.vm.findClass "com/example/bookfence/bookfence/engine/Side" = some m.cls := findClass_of_methodNamed Bd.named
  have X0 : Stand p l e ({ frames := 0, cells := 0, slots := 0, locals := 0 } : Room) s m #[(.ref s_SELL), (.long p1), (.long p2)] below meth c s₁ [] 0 0 := Stand.of_body Bd
  have e0 : s₁.heap = h0 := by rw [← hh, Bd.state]; rfl
  have N0 := Fr.nil n0
  have pre0 : ∀ t, Steps p.tables e below (s₁.setTop (mkF m 0 #[.val (.ref s_SELL), .val (.long p1), .second, .val (.long p2), .second] [])) t → Steps p.tables e below (s₁.setTop (entryFrame m #[(.ref s_SELL), (.long p1), (.long p2)] 5)) t := fun t k => castTop (by first | (simp [entryFrame, mkF, argsToLocals, Value.category]; done) | rfl) k
  obtain ⟨T1, X1, e1, st1⟩ := getS X0 hx hZ hown (host := "") (hw _ (List.mem_of_getElem? (i := 8) rfl)) Via.refl e0 S_BUY (g := (mkF m 1 #[.val (.ref s_SELL), .val (.long p1), .second, .val (.long p2), .second] [(.ref s_SELL)])) rfl (hb hby d0_1)
  obtain ⟨fs, hr, hrun, hended, hW, hsame⟩ := X1.leave (v := some (.int (1 : Int32))) (fun h => by rw [Bd.returns] at h; cases h)
  refine ⟨_, _, pre0 _ ?_, hrun, hended, _, _, rfl, ?_, ⟨_, rfl⟩, hW, hsame.mono (by decide) (by decide)⟩
  · show Steps p.tables e below (s₁.setTop (mkF m 0 #[.val (.ref s_SELL), .val (.long p1), .second, .val (.long p2), .second] [])) _
    refine XS.aloadN X0.here hx rfl (hb hby d0_0) rfl rfl ?_
    show Steps p.tables e below (s₁.setTop (mkF m 1 #[.val (.ref s_SELL), .val (.long p1), .second, .val (.long p2), .second] [(.ref s_SELL)])) _
    refine st1 _ ?_
    show Steps p.tables e below (T1.setTop (mkF m 4 #[.val (.ref s_SELL), .val (.long p1), .second, .val (.long p2), .second] [(.ref s_BUY), (.ref s_SELL)])) _
    refine Jvm.RoadKit.acmp (g := (mkF m 4 #[.val (.ref s_SELL), .val (.long p1), .second, .val (.long p2), .second] [(.ref s_BUY), (.ref s_SELL)])) X1 hx rfl rfl rfl (pc0 := 4) (pc' := 21) (same := false) rfl (hb hby d0_4) rfl (decide_eq_false fun q => (Ne.symm ne_BUY_SELL) (Value.ref.inj q)) (by decide) (by decide) ?_
    show Steps p.tables e below (T1.setTop (mkF m 21 #[.val (.ref s_SELL), .val (.long p1), .second, .val (.long p2), .second] [])) _
    refine XS.lloadN X1.here hx rfl (hb hby d0_21) rfl ?_
    show Steps p.tables e below (T1.setTop (mkF m 22 #[.val (.ref s_SELL), .val (.long p1), .second, .val (.long p2), .second] [(.long p2)])) _
    refine XS.lloadN X1.here hx rfl (hb hby d0_22) rfl ?_
    show Steps p.tables e below (T1.setTop (mkF m 23 #[.val (.ref s_SELL), .val (.long p1), .second, .val (.long p2), .second] [(.long p1), (.long p2)])) _
    refine XS.lcmp X1.here hx rfl (hb hby d0_23) rfl ?_
    show Steps p.tables e below (T1.setTop (mkF m 24 #[.val (.ref s_SELL), .val (.long p1), .second, .val (.long p2), .second] [(.int (lcmpW p2 p1))])) _
    rw [own_lc_gt hc]
    show Steps p.tables e below (T1.setTop (mkF m 24 #[.val (.ref s_SELL), .val (.long p1), .second, .val (.long p2), .second] [(.int (1 : Int32))])) _
    refine XS.ifNo X1.here hx rfl (hb hby d0_24) rfl (by decide +kernel) ?_
    show Steps p.tables e below (T1.setTop (mkF m 27 #[.val (.ref s_SELL), .val (.long p1), .second, .val (.long p2), .second] [])) _
    refine XS.iconst X1.here hx rfl (hb hby d0_27) ?_
    show Steps p.tables e below (T1.setTop (mkF m 28 #[.val (.ref s_SELL), .val (.long p1), .second, .val (.long p2), .second] [(.int (1 : Int32))])) _
    refine XS.goto X1.here hx rfl (pc0 := 28) (pc' := 32) rfl (hb hby d0_28) (by decide) (by decide) ?_
    show Steps p.tables e below (T1.setTop (mkF m 32 #[.val (.ref s_SELL), .val (.long p1), .second, .val (.long p2), .second] [(.int (1 : Int32))])) _
    exact retN X1 hx (t := .boolean) Bd.returns (by simp) (hb hby d0_32) hr
  · exact ⟨rfl, N0, e1⟩
set_option maxRecDepth 65536 in
set_option maxHeartbeats 40000000 in
theorem r7 (l : Launch) (Z : State) (a0 : Array Value) (hw : ∀ d ∈ tables_1, d.before a0 Z = true) (ws : List Jvm.Cond) (h0 : Heap) (n0 : Nat) (s_SELL : Addr) (s_BUY : Addr) (K : Ctx Z h0 s_SELL s_BUY) (p1 : Int64) (p2 : Int64) (hc : p1 < p2) :
    MetFree l (⟨"java/lang/Math", "min", "(JJ)J"⟩ : MethodName) (head1 (Jvm.Cond.code (⟨"java/lang/Math", "min", "(JJ)J"⟩ : MethodName) jdk_29_method_70_code 4 (some .long) :: ws) ({ frames := 0, cells := 0, slots := 0, locals := 0 } : Room)) (fun a U => a = #[(.long p1), (.long p2)] ∧ Z.Warmed39 U.vm ∧ U.heap = h0) (fun _ _ _ _ _ => True) (fun _ U o U' => ∃ v L, o = .returned v ∧ QV (.long p1) h0 n0 v U'.heap L ∧ FrameEnd U o U' L ({ frames := 0, cells := 0, slots := 0, locals := 0 } : Room).cells ({ frames := 0, cells := 0, slots := 0, locals := 0 } : Room).slots) := by
  obtain ⟨S_SELL, S_BUY, ne_BUY_SELL, E_SELL, E_BUY⟩ := id K
  refine MetFree.of_bodySF (Jvm.Free.JP.mathPlain rfl (by decide +kernel)) hisR ?_
  intro p e s m args below meth c s₁ Bd hml0 hP hK
  obtain ⟨rfl, hZ, hh⟩ := hP
  have hx := Bd.exec
  have hby := Bd.bytes
  have hml : c.maxLocals = 4 := hml0
  have hown : s.vm.findClass "java/lang/Math" = some m.cls := findClass_of_methodNamed Bd.named
  have X0 : Stand p l e ({ frames := 0, cells := 0, slots := 0, locals := 0 } : Room) s m #[(.long p1), (.long p2)] below meth c s₁ [] 0 0 := Stand.of_body Bd
  have e0 : s₁.heap = h0 := by rw [← hh, Bd.state]; rfl
  have N0 := Fr.nil n0
  have pre0 : ∀ t, Steps p.tables e below (s₁.setTop (mkF m 0 #[.val (.long p1), .second, .val (.long p2), .second] [])) t → Steps p.tables e below (s₁.setTop (entryFrame m #[(.long p1), (.long p2)] 4)) t := fun t k => castTop (by first | (simp [entryFrame, mkF, argsToLocals, Value.category]; done) | rfl) k
  obtain ⟨fs, hr, hrun, hended, hW, hsame⟩ := X0.leave (v := some (.long p1)) (fun h => by rw [Bd.returns] at h; cases h)
  refine ⟨_, _, pre0 _ ?_, hrun, hended, _, _, rfl, ?_, ⟨_, rfl⟩, hW, hsame.mono (by decide) (by decide)⟩
  · show Steps p.tables e below (s₁.setTop (mkF m 0 #[.val (.long p1), .second, .val (.long p2), .second] [])) _
    refine XS.lloadN X0.here hx rfl (hb hby d1_0) rfl ?_
    show Steps p.tables e below (s₁.setTop (mkF m 1 #[.val (.long p1), .second, .val (.long p2), .second] [(.long p1)])) _
    refine XS.lloadN X0.here hx rfl (hb hby d1_1) rfl ?_
    show Steps p.tables e below (s₁.setTop (mkF m 2 #[.val (.long p1), .second, .val (.long p2), .second] [(.long p2), (.long p1)])) _
    refine XS.lcmp X0.here hx rfl (hb hby d1_2) rfl ?_
    show Steps p.tables e below (s₁.setTop (mkF m 3 #[.val (.long p1), .second, .val (.long p2), .second] [(.int (lcmpW p1 p2))])) _
    rw [own_lr_gt hc]
    show Steps p.tables e below (s₁.setTop (mkF m 3 #[.val (.long p1), .second, .val (.long p2), .second] [(.int (-1 : Int32))])) _
    refine XS.ifNo X0.here hx rfl (hb hby d1_3) rfl (by decide +kernel) ?_
    show Steps p.tables e below (s₁.setTop (mkF m 6 #[.val (.long p1), .second, .val (.long p2), .second] [])) _
    refine XS.lloadN X0.here hx rfl (hb hby d1_6) rfl ?_
    show Steps p.tables e below (s₁.setTop (mkF m 7 #[.val (.long p1), .second, .val (.long p2), .second] [(.long p1)])) _
    refine XS.goto X0.here hx rfl (pc0 := 7) (pc' := 11) rfl (hb hby d1_7) (by decide) (by decide) ?_
    show Steps p.tables e below (s₁.setTop (mkF m 11 #[.val (.long p1), .second, .val (.long p2), .second] [(.long p1)])) _
    exact retOut X0 hx (i := .lreturn) Bd.returns rfl (Or.inr (Or.inl ⟨rfl, rfl, _, rfl⟩)) (hb hby d1_11) hr
  · exact ⟨rfl, N0, e0⟩
set_option maxRecDepth 65536 in
set_option maxHeartbeats 40000000 in
theorem law_k0_0_gt (l : Launch) (Z : State) (a0 : Array Value) (hw : ∀ d ∈ tables_1, d.before a0 Z = true) (ws : List Jvm.Cond) (h0 : Heap) (n0 : Nat) (s_SELL : Addr) (s_BUY : Addr) (K : Ctx Z h0 s_SELL s_BUY) (p0 : Int32) (p1 : Int64) (p2 : Int64) (ha : (p0 &&& (1 : Int32)) = (0 : Int32)) (hb1 : (p0 &&& (2 : Int32)) = (0 : Int32)) (hc : p1 < p2) :
    MetFree l x (head1 (Jvm.Cond.code x code maxLocals ret :: ws) room_1) (fun a U => a = #[(.int p0), (.long p1), (.long p2)] ∧ Z.Warmed39 U.vm ∧ U.heap = h0) (fun _ _ _ _ _ => True) (fun _ U o U' => ∃ v L, o = .returned v ∧ QV (.int (1 : Int32)) h0 n0 v U'.heap L ∧ FrameEnd U o U' L room_1.cells room_1.slots) := by
  obtain ⟨S_SELL, S_BUY, ne_BUY_SELL, E_SELL, E_BUY⟩ := id K
  refine MetFree.of_bodySF (plainFor_of_name pn3) hisR ?_
  intro p e s m args below meth c s₁ Bd hml0 hP hK
  obtain ⟨rfl, hZ, hh⟩ := hP
  have hx := Bd.exec
  have hby := Bd.bytes
  have hml : c.maxLocals = 12 := hml0
  have hown : s.vm.findClass "com/example/bookfence/bookfence/engine/SideAllowsPinLaw" = some m.cls := findClass_of_methodNamed Bd.named
  have X0 : Stand p l e room_1 s m #[(.int p0), (.long p1), (.long p2)] below meth c s₁ [] 0 0 := Stand.of_body Bd
  have e0 : s₁.heap = h0 := by rw [← hh, Bd.state]; rfl
  have N0 := Fr.nil n0
  have pre0 : ∀ t, Steps p.tables e below (s₁.setTop (mkF m 0 #[.val (.int p0), .val (.long p1), .second, .val (.long p2), .second, .unset, .unset, .unset, .unset, .unset, .unset, .unset] [])) t → Steps p.tables e below (s₁.setTop (entryFrame m #[(.int p0), (.long p1), (.long p2)] maxLocals)) t := fun t k => castTop (by first | (simp [entryFrame, mkF, argsToLocals, Value.category, maxLocals]; done) | rfl) k
  obtain ⟨T1, X1, e1, st1⟩ := getS X0 hx hZ hown (host := "") (hw _ (List.mem_of_getElem? (i := 0) rfl)) Via.refl e0 S_SELL (g := (mkF m 12 #[.val (.int p0), .val (.long p1), .second, .val (.long p2), .second, .unset, .unset, .unset, .unset, .unset, .unset, .unset] [])) rfl (hb hby at_12)
  obtain ⟨cq2, kq2, q2a, q2b, q2c⟩ := isOf hZ e1 E_SELL
  obtain ⟨_, _, ⟨T2, L2, k2, n2⟩, -, X2, ⟨Lc2, hQ2, l2, y2, z2⟩, st2⟩ := X1.virtualBack hx (y := (⟨"com/example/bookfence/bookfence/engine/Side", "allows", "(JJ)Z"⟩ : MethodName)) (z := (⟨"com/example/bookfence/bookfence/engine/Side", "allows", "(JJ)Z"⟩ : MethodName)) hown (mvT hZ (hw _ (List.mem_of_getElem? (i := 3) rfl))) (mvT hZ (hw _ (List.mem_of_getElem? (i := 4) rfl))) (notFace_of_selects (args := #[]) (mvT hZ (hw _ (List.mem_of_getElem? (i := 6) rfl)))) (mvT hZ (hw _ (List.mem_of_getElem? (i := 6) rfl))) (mvT hZ (hw _ (List.mem_of_getElem? (i := 5) rfl))) (by decide) (backOf (W := 0) (r6 l Z a0 hw [] h0 n0 s_SELL s_BUY K p1 p2 hc) hZ (hw _ (List.mem_of_getElem? (i := 7) rfl)) (hw _ (List.mem_of_getElem? (i := 1) rfl)) (by decide) (by decide)) q2a q2c (g := (mkF m 48 #[.val (.int p0), .val (.long p1), .second, .val (.long p2), .second, .val (.ref s_SELL), .val (.long ((((p0 >>> ((2 : Int32) &&& 31)) &&& (3 : Int32)) - (1 : Int32)).toInt64)), .second, .val (.long p2), .second, .unset, .unset] [(.long p2), (.long p1), (.ref s_SELL)])) rfl (by rw [hml]; rfl) (Steps.refl _) (argsL := [(.long p1), (.long p2)]) (rest := []) (lenOf pd0 rfl) rfl (by show 2 * 0 + _ ≤ _; exact Nat.le_of_eq rfl) (hb hby at_48) (fun _ _ => ⟨rfl, e1, (by decide : 0 + 0 ≤ _), (by decide : 0 + 0 ≤ _)⟩)
  dsimp only [Pt.U, Pt.locs, Pt.cells, Pt.slots] at X2 l2 y2 z2 st2 hQ2
  subst l2 y2 z2
  obtain ⟨rfl, N2q, e2⟩ := hQ2
  have N2 := Fr.app N0 N2q
  obtain ⟨T3, X3, e3, st3⟩ := getS X2 hx hZ hown (host := "") (hw _ (List.mem_of_getElem? (i := 10) rfl)) Via.refl e2 S_BUY (g := (mkF m 55 #[.val (.int p0), .val (.long p1), .second, .val (.long p2), .second, .val (.ref s_SELL), .val (.long ((((p0 >>> ((2 : Int32) &&& 31)) &&& (3 : Int32)) - (1 : Int32)).toInt64)), .second, .val (.long p2), .second, .val (.int (1 : Int32)), .unset] [(.ref s_SELL)])) rfl (hb hby at_55)
  obtain ⟨_, _, ⟨T4, L4, k4, n4⟩, -, X4, ⟨Lc4, hQ4, l4, y4, z4⟩, st4⟩ := Jvm.LawKit.callS X3 hx (y := (⟨"java/lang/Math", "min", "(JJ)J"⟩ : MethodName)) hown (mvT hZ (hw _ (List.mem_of_getElem? (i := 11) rfl))) (mvT hZ (hw _ (List.mem_of_getElem? (i := 12) rfl))) (mvT hZ (hw _ (List.mem_of_getElem? (i := 13) rfl))) (mvT hZ (hw _ (List.mem_of_getElem? (i := 14) rfl))) (by decide) (backOf (W := 0) (r7 l Z a0 hw [] h0 n0 s_SELL s_BUY K p1 p2 hc) hZ (hw _ (List.mem_of_getElem? (i := 14) rfl)) (hw _ (List.mem_of_getElem? (i := 13) rfl)) (by decide) (by decide)) (g := (mkF m 85 #[.val (.int p0), .val (.long p1), .second, .val (.long p2), .second, .val (.ref s_SELL), .val (.long ((((p0 >>> ((2 : Int32) &&& 31)) &&& (3 : Int32)) - (1 : Int32)).toInt64)), .second, .val (.long p2), .second, .val (.int (1 : Int32)), .unset] [(.long p2), (.long p1)])) rfl (by rw [hml]; rfl) (argsL := [(.long p1), (.long p2)]) (rest := []) (lenOf pd1 rfl) rfl (by show 2 * 0 + _ ≤ _; exact Nat.le_of_eq rfl) (hb hby at_85) (fun _ _ => ⟨rfl, e3, (by decide : 0 + 0 ≤ _), (by decide : 0 + 0 ≤ _)⟩)
  dsimp only [Pt.U, Pt.locs, Pt.cells, Pt.slots] at X4 l4 y4 z4 st4 hQ4
  subst l4 y4 z4
  obtain ⟨rfl, N4q, e4⟩ := hQ4
  have N4 := Fr.app N2 N4q
  obtain ⟨fs, hr, hrun, hended, hW, hsame⟩ := X4.leave (v := some (.int (1 : Int32))) (fun h => by rw [Bd.returns] at h; cases h)
  refine ⟨_, _, pre0 _ ?_, hrun, hended, _, _, rfl, ?_, ⟨_, rfl⟩, hW, hsame.mono (by decide) (by decide)⟩
  · show Steps p.tables e below (s₁.setTop (mkF m 0 #[.val (.int p0), .val (.long p1), .second, .val (.long p2), .second, .unset, .unset, .unset, .unset, .unset, .unset, .unset] [])) _
    refine XS.iloadN X0.here hx rfl (hb hby at_0) rfl ?_
    show Steps p.tables e below (s₁.setTop (mkF m 1 #[.val (.int p0), .val (.long p1), .second, .val (.long p2), .second, .unset, .unset, .unset, .unset, .unset, .unset, .unset] [(.int p0)])) _
    refine XS.iconst X0.here hx rfl (hb hby at_1) ?_
    show Steps p.tables e below (s₁.setTop (mkF m 2 #[.val (.int p0), .val (.long p1), .second, .val (.long p2), .second, .unset, .unset, .unset, .unset, .unset, .unset, .unset] [(.int (1 : Int32)), (.int p0)])) _
    refine XS.iand X0.here hx rfl (hb hby at_2) rfl ?_
    show Steps p.tables e below (s₁.setTop (mkF m 3 #[.val (.int p0), .val (.long p1), .second, .val (.long p2), .second, .unset, .unset, .unset, .unset, .unset, .unset, .unset] [(.int (p0 &&& (1 : Int32)))])) _
    rw [ha]
    show Steps p.tables e below (s₁.setTop (mkF m 3 #[.val (.int p0), .val (.long p1), .second, .val (.long p2), .second, .unset, .unset, .unset, .unset, .unset, .unset, .unset] [(.int (0 : Int32))])) _
    refine XS.ifYes X0.here hx rfl (pc0 := 3) (pc' := 12) rfl (hb hby at_3) rfl (by decide +kernel) (by decide) (by decide) ?_
    show Steps p.tables e below (s₁.setTop (mkF m 12 #[.val (.int p0), .val (.long p1), .second, .val (.long p2), .second, .unset, .unset, .unset, .unset, .unset, .unset, .unset] [])) _
    refine st1 _ ?_
    show Steps p.tables e below (T1.setTop (mkF m 15 #[.val (.int p0), .val (.long p1), .second, .val (.long p2), .second, .unset, .unset, .unset, .unset, .unset, .unset, .unset] [(.ref s_SELL)])) _
    refine XS.astore X1.here hx rfl (hb hby at_15) rfl rfl (l' := #[.val (.int p0), .val (.long p1), .second, .val (.long p2), .second, .val (.ref s_SELL), .unset, .unset, .unset, .unset, .unset, .unset]) rfl ?_
    show Steps p.tables e below (T1.setTop (mkF m 17 #[.val (.int p0), .val (.long p1), .second, .val (.long p2), .second, .val (.ref s_SELL), .unset, .unset, .unset, .unset, .unset, .unset] [])) _
    refine XS.iloadN X1.here hx rfl (hb hby at_17) rfl ?_
    show Steps p.tables e below (T1.setTop (mkF m 18 #[.val (.int p0), .val (.long p1), .second, .val (.long p2), .second, .val (.ref s_SELL), .unset, .unset, .unset, .unset, .unset, .unset] [(.int p0)])) _
    refine XS.iconst X1.here hx rfl (hb hby at_18) ?_
    show Steps p.tables e below (T1.setTop (mkF m 19 #[.val (.int p0), .val (.long p1), .second, .val (.long p2), .second, .val (.ref s_SELL), .unset, .unset, .unset, .unset, .unset, .unset] [(.int (2 : Int32)), (.int p0)])) _
    refine XS.ishr X1.here hx rfl (hb hby at_19) rfl ?_
    show Steps p.tables e below (T1.setTop (mkF m 20 #[.val (.int p0), .val (.long p1), .second, .val (.long p2), .second, .val (.ref s_SELL), .unset, .unset, .unset, .unset, .unset, .unset] [(.int (p0 >>> ((2 : Int32) &&& 31)))])) _
    refine XS.iconst X1.here hx rfl (hb hby at_20) ?_
    show Steps p.tables e below (T1.setTop (mkF m 21 #[.val (.int p0), .val (.long p1), .second, .val (.long p2), .second, .val (.ref s_SELL), .unset, .unset, .unset, .unset, .unset, .unset] [(.int (3 : Int32)), (.int (p0 >>> ((2 : Int32) &&& 31)))])) _
    refine XS.iand X1.here hx rfl (hb hby at_21) rfl ?_
    show Steps p.tables e below (T1.setTop (mkF m 22 #[.val (.int p0), .val (.long p1), .second, .val (.long p2), .second, .val (.ref s_SELL), .unset, .unset, .unset, .unset, .unset, .unset] [(.int ((p0 >>> ((2 : Int32) &&& 31)) &&& (3 : Int32)))])) _
    refine XS.iconst X1.here hx rfl (hb hby at_22) ?_
    show Steps p.tables e below (T1.setTop (mkF m 23 #[.val (.int p0), .val (.long p1), .second, .val (.long p2), .second, .val (.ref s_SELL), .unset, .unset, .unset, .unset, .unset, .unset] [(.int (1 : Int32)), (.int ((p0 >>> ((2 : Int32) &&& 31)) &&& (3 : Int32)))])) _
    refine XS.isub X1.here hx rfl (hb hby at_23) rfl ?_
    show Steps p.tables e below (T1.setTop (mkF m 24 #[.val (.int p0), .val (.long p1), .second, .val (.long p2), .second, .val (.ref s_SELL), .unset, .unset, .unset, .unset, .unset, .unset] [(.int (((p0 >>> ((2 : Int32) &&& 31)) &&& (3 : Int32)) - (1 : Int32)))])) _
    refine XS.i2l X1.here hx rfl (hb hby at_24) rfl ?_
    show Steps p.tables e below (T1.setTop (mkF m 25 #[.val (.int p0), .val (.long p1), .second, .val (.long p2), .second, .val (.ref s_SELL), .unset, .unset, .unset, .unset, .unset, .unset] [(.long ((((p0 >>> ((2 : Int32) &&& 31)) &&& (3 : Int32)) - (1 : Int32)).toInt64))])) _
    refine XS.lstore X1.here hx rfl (hb hby at_25) rfl (l' := #[.val (.int p0), .val (.long p1), .second, .val (.long p2), .second, .val (.ref s_SELL), .val (.long ((((p0 >>> ((2 : Int32) &&& 31)) &&& (3 : Int32)) - (1 : Int32)).toInt64)), .second, .unset, .unset, .unset, .unset]) rfl ?_
    show Steps p.tables e below (T1.setTop (mkF m 27 #[.val (.int p0), .val (.long p1), .second, .val (.long p2), .second, .val (.ref s_SELL), .val (.long ((((p0 >>> ((2 : Int32) &&& 31)) &&& (3 : Int32)) - (1 : Int32)).toInt64)), .second, .unset, .unset, .unset, .unset] [])) _
    refine XS.iloadN X1.here hx rfl (hb hby at_27) rfl ?_
    show Steps p.tables e below (T1.setTop (mkF m 28 #[.val (.int p0), .val (.long p1), .second, .val (.long p2), .second, .val (.ref s_SELL), .val (.long ((((p0 >>> ((2 : Int32) &&& 31)) &&& (3 : Int32)) - (1 : Int32)).toInt64)), .second, .unset, .unset, .unset, .unset] [(.int p0)])) _
    refine XS.iconst X1.here hx rfl (hb hby at_28) ?_
    show Steps p.tables e below (T1.setTop (mkF m 29 #[.val (.int p0), .val (.long p1), .second, .val (.long p2), .second, .val (.ref s_SELL), .val (.long ((((p0 >>> ((2 : Int32) &&& 31)) &&& (3 : Int32)) - (1 : Int32)).toInt64)), .second, .unset, .unset, .unset, .unset] [(.int (2 : Int32)), (.int p0)])) _
    refine XS.iand X1.here hx rfl (hb hby at_29) rfl ?_
    show Steps p.tables e below (T1.setTop (mkF m 30 #[.val (.int p0), .val (.long p1), .second, .val (.long p2), .second, .val (.ref s_SELL), .val (.long ((((p0 >>> ((2 : Int32) &&& 31)) &&& (3 : Int32)) - (1 : Int32)).toInt64)), .second, .unset, .unset, .unset, .unset] [(.int (p0 &&& (2 : Int32)))])) _
    rw [hb1]
    show Steps p.tables e below (T1.setTop (mkF m 30 #[.val (.int p0), .val (.long p1), .second, .val (.long p2), .second, .val (.ref s_SELL), .val (.long ((((p0 >>> ((2 : Int32) &&& 31)) &&& (3 : Int32)) - (1 : Int32)).toInt64)), .second, .unset, .unset, .unset, .unset] [(.int (0 : Int32))])) _
    refine XS.ifYes X1.here hx rfl (pc0 := 30) (pc' := 40) rfl (hb hby at_30) rfl (by decide +kernel) (by decide) (by decide) ?_
    show Steps p.tables e below (T1.setTop (mkF m 40 #[.val (.int p0), .val (.long p1), .second, .val (.long p2), .second, .val (.ref s_SELL), .val (.long ((((p0 >>> ((2 : Int32) &&& 31)) &&& (3 : Int32)) - (1 : Int32)).toInt64)), .second, .unset, .unset, .unset, .unset] [])) _
    refine XS.lloadN X1.here hx rfl (hb hby at_40) rfl ?_
    show Steps p.tables e below (T1.setTop (mkF m 41 #[.val (.int p0), .val (.long p1), .second, .val (.long p2), .second, .val (.ref s_SELL), .val (.long ((((p0 >>> ((2 : Int32) &&& 31)) &&& (3 : Int32)) - (1 : Int32)).toInt64)), .second, .unset, .unset, .unset, .unset] [(.long p2)])) _
    refine XS.lstore X1.here hx rfl (hb hby at_41) rfl (l' := #[.val (.int p0), .val (.long p1), .second, .val (.long p2), .second, .val (.ref s_SELL), .val (.long ((((p0 >>> ((2 : Int32) &&& 31)) &&& (3 : Int32)) - (1 : Int32)).toInt64)), .second, .val (.long p2), .second, .unset, .unset]) rfl ?_
    show Steps p.tables e below (T1.setTop (mkF m 43 #[.val (.int p0), .val (.long p1), .second, .val (.long p2), .second, .val (.ref s_SELL), .val (.long ((((p0 >>> ((2 : Int32) &&& 31)) &&& (3 : Int32)) - (1 : Int32)).toInt64)), .second, .val (.long p2), .second, .unset, .unset] [])) _
    refine XS.aload X1.here hx rfl (hb hby at_43) rfl rfl ?_
    show Steps p.tables e below (T1.setTop (mkF m 45 #[.val (.int p0), .val (.long p1), .second, .val (.long p2), .second, .val (.ref s_SELL), .val (.long ((((p0 >>> ((2 : Int32) &&& 31)) &&& (3 : Int32)) - (1 : Int32)).toInt64)), .second, .val (.long p2), .second, .unset, .unset] [(.ref s_SELL)])) _
    refine XS.lloadN X1.here hx rfl (hb hby at_45) rfl ?_
    show Steps p.tables e below (T1.setTop (mkF m 46 #[.val (.int p0), .val (.long p1), .second, .val (.long p2), .second, .val (.ref s_SELL), .val (.long ((((p0 >>> ((2 : Int32) &&& 31)) &&& (3 : Int32)) - (1 : Int32)).toInt64)), .second, .val (.long p2), .second, .unset, .unset] [(.long p1), (.ref s_SELL)])) _
    refine XS.lload X1.here hx rfl (hb hby at_46) rfl ?_
    show Steps p.tables e below (T1.setTop (mkF m 48 #[.val (.int p0), .val (.long p1), .second, .val (.long p2), .second, .val (.ref s_SELL), .val (.long ((((p0 >>> ((2 : Int32) &&& 31)) &&& (3 : Int32)) - (1 : Int32)).toInt64)), .second, .val (.long p2), .second, .unset, .unset] [(.long p2), (.long p1), (.ref s_SELL)])) _
    refine st2.trans ?_
    show Steps p.tables e below (T2.setTop (mkF m 51 #[.val (.int p0), .val (.long p1), .second, .val (.long p2), .second, .val (.ref s_SELL), .val (.long ((((p0 >>> ((2 : Int32) &&& 31)) &&& (3 : Int32)) - (1 : Int32)).toInt64)), .second, .val (.long p2), .second, .unset, .unset] [(.int (1 : Int32))])) _
    refine XS.istore X2.here hx rfl (hb hby at_51) rfl (l' := #[.val (.int p0), .val (.long p1), .second, .val (.long p2), .second, .val (.ref s_SELL), .val (.long ((((p0 >>> ((2 : Int32) &&& 31)) &&& (3 : Int32)) - (1 : Int32)).toInt64)), .second, .val (.long p2), .second, .val (.int (1 : Int32)), .unset]) rfl ?_
    show Steps p.tables e below (T2.setTop (mkF m 53 #[.val (.int p0), .val (.long p1), .second, .val (.long p2), .second, .val (.ref s_SELL), .val (.long ((((p0 >>> ((2 : Int32) &&& 31)) &&& (3 : Int32)) - (1 : Int32)).toInt64)), .second, .val (.long p2), .second, .val (.int (1 : Int32)), .unset] [])) _
    refine XS.aload X2.here hx rfl (hb hby at_53) rfl rfl ?_
    show Steps p.tables e below (T2.setTop (mkF m 55 #[.val (.int p0), .val (.long p1), .second, .val (.long p2), .second, .val (.ref s_SELL), .val (.long ((((p0 >>> ((2 : Int32) &&& 31)) &&& (3 : Int32)) - (1 : Int32)).toInt64)), .second, .val (.long p2), .second, .val (.int (1 : Int32)), .unset] [(.ref s_SELL)])) _
    refine st3 _ ?_
    show Steps p.tables e below (T3.setTop (mkF m 58 #[.val (.int p0), .val (.long p1), .second, .val (.long p2), .second, .val (.ref s_SELL), .val (.long ((((p0 >>> ((2 : Int32) &&& 31)) &&& (3 : Int32)) - (1 : Int32)).toInt64)), .second, .val (.long p2), .second, .val (.int (1 : Int32)), .unset] [(.ref s_BUY), (.ref s_SELL)])) _
    refine Jvm.RoadKit.acmp (g := (mkF m 58 #[.val (.int p0), .val (.long p1), .second, .val (.long p2), .second, .val (.ref s_SELL), .val (.long ((((p0 >>> ((2 : Int32) &&& 31)) &&& (3 : Int32)) - (1 : Int32)).toInt64)), .second, .val (.long p2), .second, .val (.int (1 : Int32)), .unset] [(.ref s_BUY), (.ref s_SELL)])) X3 hx rfl rfl rfl (pc0 := 58) (pc' := 82) (same := false) rfl (hb hby at_58) rfl (decide_eq_false fun q => (Ne.symm ne_BUY_SELL) (Value.ref.inj q)) (by decide) (by decide) ?_
    show Steps p.tables e below (T3.setTop (mkF m 82 #[.val (.int p0), .val (.long p1), .second, .val (.long p2), .second, .val (.ref s_SELL), .val (.long ((((p0 >>> ((2 : Int32) &&& 31)) &&& (3 : Int32)) - (1 : Int32)).toInt64)), .second, .val (.long p2), .second, .val (.int (1 : Int32)), .unset] [])) _
    refine XS.lloadN X3.here hx rfl (hb hby at_82) rfl ?_
    show Steps p.tables e below (T3.setTop (mkF m 83 #[.val (.int p0), .val (.long p1), .second, .val (.long p2), .second, .val (.ref s_SELL), .val (.long ((((p0 >>> ((2 : Int32) &&& 31)) &&& (3 : Int32)) - (1 : Int32)).toInt64)), .second, .val (.long p2), .second, .val (.int (1 : Int32)), .unset] [(.long p1)])) _
    refine XS.lload X3.here hx rfl (hb hby at_83) rfl ?_
    show Steps p.tables e below (T3.setTop (mkF m 85 #[.val (.int p0), .val (.long p1), .second, .val (.long p2), .second, .val (.ref s_SELL), .val (.long ((((p0 >>> ((2 : Int32) &&& 31)) &&& (3 : Int32)) - (1 : Int32)).toInt64)), .second, .val (.long p2), .second, .val (.int (1 : Int32)), .unset] [(.long p2), (.long p1)])) _
    refine st4 _ ?_
    show Steps p.tables e below (T4.setTop (mkF m 88 #[.val (.int p0), .val (.long p1), .second, .val (.long p2), .second, .val (.ref s_SELL), .val (.long ((((p0 >>> ((2 : Int32) &&& 31)) &&& (3 : Int32)) - (1 : Int32)).toInt64)), .second, .val (.long p2), .second, .val (.int (1 : Int32)), .unset] [(.long p1)])) _
    refine XS.lloadN X4.here hx rfl (hb hby at_88) rfl ?_
    show Steps p.tables e below (T4.setTop (mkF m 89 #[.val (.int p0), .val (.long p1), .second, .val (.long p2), .second, .val (.ref s_SELL), .val (.long ((((p0 >>> ((2 : Int32) &&& 31)) &&& (3 : Int32)) - (1 : Int32)).toInt64)), .second, .val (.long p2), .second, .val (.int (1 : Int32)), .unset] [(.long p1), (.long p1)])) _
    refine XS.lcmp X4.here hx rfl (hb hby at_89) rfl ?_
    show Steps p.tables e below (T4.setTop (mkF m 90 #[.val (.int p0), .val (.long p1), .second, .val (.long p2), .second, .val (.ref s_SELL), .val (.long ((((p0 >>> ((2 : Int32) &&& 31)) &&& (3 : Int32)) - (1 : Int32)).toInt64)), .second, .val (.long p2), .second, .val (.int (1 : Int32)), .unset] [(.int (lcmpW p1 p1))])) _
    rw [own_lc_eq (rfl : p1 = p1)]
    show Steps p.tables e below (T4.setTop (mkF m 90 #[.val (.int p0), .val (.long p1), .second, .val (.long p2), .second, .val (.ref s_SELL), .val (.long ((((p0 >>> ((2 : Int32) &&& 31)) &&& (3 : Int32)) - (1 : Int32)).toInt64)), .second, .val (.long p2), .second, .val (.int (1 : Int32)), .unset] [(.int (0 : Int32))])) _
    refine XS.ifNo X4.here hx rfl (hb hby at_90) rfl (by decide +kernel) ?_
    show Steps p.tables e below (T4.setTop (mkF m 93 #[.val (.int p0), .val (.long p1), .second, .val (.long p2), .second, .val (.ref s_SELL), .val (.long ((((p0 >>> ((2 : Int32) &&& 31)) &&& (3 : Int32)) - (1 : Int32)).toInt64)), .second, .val (.long p2), .second, .val (.int (1 : Int32)), .unset] [])) _
    refine XS.iconst X4.here hx rfl (hb hby at_93) ?_
    show Steps p.tables e below (T4.setTop (mkF m 94 #[.val (.int p0), .val (.long p1), .second, .val (.long p2), .second, .val (.ref s_SELL), .val (.long ((((p0 >>> ((2 : Int32) &&& 31)) &&& (3 : Int32)) - (1 : Int32)).toInt64)), .second, .val (.long p2), .second, .val (.int (1 : Int32)), .unset] [(.int (1 : Int32))])) _
    refine XS.goto X4.here hx rfl (pc0 := 94) (pc' := 98) rfl (hb hby at_94) (by decide) (by decide) ?_
    show Steps p.tables e below (T4.setTop (mkF m 98 #[.val (.int p0), .val (.long p1), .second, .val (.long p2), .second, .val (.ref s_SELL), .val (.long ((((p0 >>> ((2 : Int32) &&& 31)) &&& (3 : Int32)) - (1 : Int32)).toInt64)), .second, .val (.long p2), .second, .val (.int (1 : Int32)), .unset] [(.int (1 : Int32))])) _
    refine XS.istore X4.here hx rfl (hb hby at_98) rfl (l' := #[.val (.int p0), .val (.long p1), .second, .val (.long p2), .second, .val (.ref s_SELL), .val (.long ((((p0 >>> ((2 : Int32) &&& 31)) &&& (3 : Int32)) - (1 : Int32)).toInt64)), .second, .val (.long p2), .second, .val (.int (1 : Int32)), .val (.int (1 : Int32))]) rfl ?_
    show Steps p.tables e below (T4.setTop (mkF m 100 #[.val (.int p0), .val (.long p1), .second, .val (.long p2), .second, .val (.ref s_SELL), .val (.long ((((p0 >>> ((2 : Int32) &&& 31)) &&& (3 : Int32)) - (1 : Int32)).toInt64)), .second, .val (.long p2), .second, .val (.int (1 : Int32)), .val (.int (1 : Int32))] [])) _
    refine XS.iload X4.here hx rfl (hb hby at_100) rfl ?_
    show Steps p.tables e below (T4.setTop (mkF m 102 #[.val (.int p0), .val (.long p1), .second, .val (.long p2), .second, .val (.ref s_SELL), .val (.long ((((p0 >>> ((2 : Int32) &&& 31)) &&& (3 : Int32)) - (1 : Int32)).toInt64)), .second, .val (.long p2), .second, .val (.int (1 : Int32)), .val (.int (1 : Int32))] [(.int (1 : Int32))])) _
    refine XS.iload X4.here hx rfl (hb hby at_102) rfl ?_
    show Steps p.tables e below (T4.setTop (mkF m 104 #[.val (.int p0), .val (.long p1), .second, .val (.long p2), .second, .val (.ref s_SELL), .val (.long ((((p0 >>> ((2 : Int32) &&& 31)) &&& (3 : Int32)) - (1 : Int32)).toInt64)), .second, .val (.long p2), .second, .val (.int (1 : Int32)), .val (.int (1 : Int32))] [(.int (1 : Int32)), (.int (1 : Int32))])) _
    refine XS.icmpNo X4.here hx rfl (hb hby at_104) rfl (by decide +kernel) ?_
    show Steps p.tables e below (T4.setTop (mkF m 107 #[.val (.int p0), .val (.long p1), .second, .val (.long p2), .second, .val (.ref s_SELL), .val (.long ((((p0 >>> ((2 : Int32) &&& 31)) &&& (3 : Int32)) - (1 : Int32)).toInt64)), .second, .val (.long p2), .second, .val (.int (1 : Int32)), .val (.int (1 : Int32))] [])) _
    refine XS.iconst X4.here hx rfl (hb hby at_107) ?_
    show Steps p.tables e below (T4.setTop (mkF m 108 #[.val (.int p0), .val (.long p1), .second, .val (.long p2), .second, .val (.ref s_SELL), .val (.long ((((p0 >>> ((2 : Int32) &&& 31)) &&& (3 : Int32)) - (1 : Int32)).toInt64)), .second, .val (.long p2), .second, .val (.int (1 : Int32)), .val (.int (1 : Int32))] [(.int (1 : Int32))])) _
    refine XS.goto X4.here hx rfl (pc0 := 108) (pc' := 112) rfl (hb hby at_108) (by decide) (by decide) ?_
    show Steps p.tables e below (T4.setTop (mkF m 112 #[.val (.int p0), .val (.long p1), .second, .val (.long p2), .second, .val (.ref s_SELL), .val (.long ((((p0 >>> ((2 : Int32) &&& 31)) &&& (3 : Int32)) - (1 : Int32)).toInt64)), .second, .val (.long p2), .second, .val (.int (1 : Int32)), .val (.int (1 : Int32))] [(.int (1 : Int32))])) _
    exact retN X4 hx (t := .boolean) Bd.returns (by simp) (hb hby at_112) hr
  · exact ⟨rfl, N4, e4⟩
set_option maxRecDepth 65536 in
set_option maxHeartbeats 40000000 in
theorem r9 (l : Launch) (Z : State) (a0 : Array Value) (hw : ∀ d ∈ tables_1, d.before a0 Z = true) (ws : List Jvm.Cond) (h0 : Heap) (n0 : Nat) (s_SELL : Addr) (s_BUY : Addr) (K : Ctx Z h0 s_SELL s_BUY) (p0 : Int32) (p1 : Int64) (hc : (p1 + ((((p0 >>> ((2 : Int32) &&& 31)) &&& (3 : Int32)) - (1 : Int32)).toInt64)) < p1) :
    MetFree l (⟨"com/example/bookfence/bookfence/engine/Side", "allows", "(JJ)Z"⟩ : MethodName) (head1 (Jvm.Cond.code (⟨"com/example/bookfence/bookfence/engine/Side", "allows", "(JJ)Z"⟩ : MethodName) prog_44_method_5_code 5 (some .boolean) :: ws) ({ frames := 0, cells := 0, slots := 0, locals := 0 } : Room)) (fun a U => a = #[(.ref s_SELL), (.long p1), (.long (p1 + ((((p0 >>> ((2 : Int32) &&& 31)) &&& (3 : Int32)) - (1 : Int32)).toInt64)))] ∧ Z.Warmed39 U.vm ∧ U.heap = h0) (fun _ _ _ _ _ => True) (fun _ U o U' => ∃ v L, o = .returned v ∧ QV (.int (0 : Int32)) h0 n0 v U'.heap L ∧ FrameEnd U o U' L ({ frames := 0, cells := 0, slots := 0, locals := 0 } : Room).cells ({ frames := 0, cells := 0, slots := 0, locals := 0 } : Room).slots) := by
  obtain ⟨S_SELL, S_BUY, ne_BUY_SELL, E_SELL, E_BUY⟩ := id K
  refine MetFree.of_bodySF (plainFor_of_name pn0) hisR ?_
  intro p e s m args below meth c s₁ Bd hml0 hP hK
  obtain ⟨rfl, hZ, hh⟩ := hP
  have hx := Bd.exec
  have hby := Bd.bytes
  have hml : c.maxLocals = 5 := hml0
  have hown : s.vm.findClass "com/example/bookfence/bookfence/engine/Side" = some m.cls := findClass_of_methodNamed Bd.named
  have X0 : Stand p l e ({ frames := 0, cells := 0, slots := 0, locals := 0 } : Room) s m #[(.ref s_SELL), (.long p1), (.long (p1 + ((((p0 >>> ((2 : Int32) &&& 31)) &&& (3 : Int32)) - (1 : Int32)).toInt64)))] below meth c s₁ [] 0 0 := Stand.of_body Bd
  have e0 : s₁.heap = h0 := by rw [← hh, Bd.state]; rfl
  have N0 := Fr.nil n0
  have pre0 : ∀ t, Steps p.tables e below (s₁.setTop (mkF m 0 #[.val (.ref s_SELL), .val (.long p1), .second, .val (.long (p1 + ((((p0 >>> ((2 : Int32) &&& 31)) &&& (3 : Int32)) - (1 : Int32)).toInt64))), .second] [])) t → Steps p.tables e below (s₁.setTop (entryFrame m #[(.ref s_SELL), (.long p1), (.long (p1 + ((((p0 >>> ((2 : Int32) &&& 31)) &&& (3 : Int32)) - (1 : Int32)).toInt64)))] 5)) t := fun t k => castTop (by first | (simp [entryFrame, mkF, argsToLocals, Value.category]; done) | rfl) k
  obtain ⟨T1, X1, e1, st1⟩ := getS X0 hx hZ hown (host := "") (hw _ (List.mem_of_getElem? (i := 8) rfl)) Via.refl e0 S_BUY (g := (mkF m 1 #[.val (.ref s_SELL), .val (.long p1), .second, .val (.long (p1 + ((((p0 >>> ((2 : Int32) &&& 31)) &&& (3 : Int32)) - (1 : Int32)).toInt64))), .second] [(.ref s_SELL)])) rfl (hb hby d0_1)
  obtain ⟨fs, hr, hrun, hended, hW, hsame⟩ := X1.leave (v := some (.int (0 : Int32))) (fun h => by rw [Bd.returns] at h; cases h)
  refine ⟨_, _, pre0 _ ?_, hrun, hended, _, _, rfl, ?_, ⟨_, rfl⟩, hW, hsame.mono (by decide) (by decide)⟩
  · show Steps p.tables e below (s₁.setTop (mkF m 0 #[.val (.ref s_SELL), .val (.long p1), .second, .val (.long (p1 + ((((p0 >>> ((2 : Int32) &&& 31)) &&& (3 : Int32)) - (1 : Int32)).toInt64))), .second] [])) _
    refine XS.aloadN X0.here hx rfl (hb hby d0_0) rfl rfl ?_
    show Steps p.tables e below (s₁.setTop (mkF m 1 #[.val (.ref s_SELL), .val (.long p1), .second, .val (.long (p1 + ((((p0 >>> ((2 : Int32) &&& 31)) &&& (3 : Int32)) - (1 : Int32)).toInt64))), .second] [(.ref s_SELL)])) _
    refine st1 _ ?_
    show Steps p.tables e below (T1.setTop (mkF m 4 #[.val (.ref s_SELL), .val (.long p1), .second, .val (.long (p1 + ((((p0 >>> ((2 : Int32) &&& 31)) &&& (3 : Int32)) - (1 : Int32)).toInt64))), .second] [(.ref s_BUY), (.ref s_SELL)])) _
    refine Jvm.RoadKit.acmp (g := (mkF m 4 #[.val (.ref s_SELL), .val (.long p1), .second, .val (.long (p1 + ((((p0 >>> ((2 : Int32) &&& 31)) &&& (3 : Int32)) - (1 : Int32)).toInt64))), .second] [(.ref s_BUY), (.ref s_SELL)])) X1 hx rfl rfl rfl (pc0 := 4) (pc' := 21) (same := false) rfl (hb hby d0_4) rfl (decide_eq_false fun q => (Ne.symm ne_BUY_SELL) (Value.ref.inj q)) (by decide) (by decide) ?_
    show Steps p.tables e below (T1.setTop (mkF m 21 #[.val (.ref s_SELL), .val (.long p1), .second, .val (.long (p1 + ((((p0 >>> ((2 : Int32) &&& 31)) &&& (3 : Int32)) - (1 : Int32)).toInt64))), .second] [])) _
    refine XS.lloadN X1.here hx rfl (hb hby d0_21) rfl ?_
    show Steps p.tables e below (T1.setTop (mkF m 22 #[.val (.ref s_SELL), .val (.long p1), .second, .val (.long (p1 + ((((p0 >>> ((2 : Int32) &&& 31)) &&& (3 : Int32)) - (1 : Int32)).toInt64))), .second] [(.long (p1 + ((((p0 >>> ((2 : Int32) &&& 31)) &&& (3 : Int32)) - (1 : Int32)).toInt64)))])) _
    refine XS.lloadN X1.here hx rfl (hb hby d0_22) rfl ?_
    show Steps p.tables e below (T1.setTop (mkF m 23 #[.val (.ref s_SELL), .val (.long p1), .second, .val (.long (p1 + ((((p0 >>> ((2 : Int32) &&& 31)) &&& (3 : Int32)) - (1 : Int32)).toInt64))), .second] [(.long p1), (.long (p1 + ((((p0 >>> ((2 : Int32) &&& 31)) &&& (3 : Int32)) - (1 : Int32)).toInt64)))])) _
    refine XS.lcmp X1.here hx rfl (hb hby d0_23) rfl ?_
    show Steps p.tables e below (T1.setTop (mkF m 24 #[.val (.ref s_SELL), .val (.long p1), .second, .val (.long (p1 + ((((p0 >>> ((2 : Int32) &&& 31)) &&& (3 : Int32)) - (1 : Int32)).toInt64))), .second] [(.int (lcmpW (p1 + ((((p0 >>> ((2 : Int32) &&& 31)) &&& (3 : Int32)) - (1 : Int32)).toInt64)) p1))])) _
    rw [own_lc_lt hc]
    show Steps p.tables e below (T1.setTop (mkF m 24 #[.val (.ref s_SELL), .val (.long p1), .second, .val (.long (p1 + ((((p0 >>> ((2 : Int32) &&& 31)) &&& (3 : Int32)) - (1 : Int32)).toInt64))), .second] [(.int (-1 : Int32))])) _
    refine XS.ifYes X1.here hx rfl (pc0 := 24) (pc' := 31) rfl (hb hby d0_24) rfl (by decide +kernel) (by decide) (by decide) ?_
    show Steps p.tables e below (T1.setTop (mkF m 31 #[.val (.ref s_SELL), .val (.long p1), .second, .val (.long (p1 + ((((p0 >>> ((2 : Int32) &&& 31)) &&& (3 : Int32)) - (1 : Int32)).toInt64))), .second] [])) _
    refine XS.iconst X1.here hx rfl (hb hby d0_31) ?_
    show Steps p.tables e below (T1.setTop (mkF m 32 #[.val (.ref s_SELL), .val (.long p1), .second, .val (.long (p1 + ((((p0 >>> ((2 : Int32) &&& 31)) &&& (3 : Int32)) - (1 : Int32)).toInt64))), .second] [(.int (0 : Int32))])) _
    exact retN X1 hx (t := .boolean) Bd.returns (by simp) (hb hby d0_32) hr
  · exact ⟨rfl, N0, e1⟩
set_option maxRecDepth 65536 in
set_option maxHeartbeats 40000000 in
theorem r10 (l : Launch) (Z : State) (a0 : Array Value) (hw : ∀ d ∈ tables_1, d.before a0 Z = true) (ws : List Jvm.Cond) (h0 : Heap) (n0 : Nat) (s_SELL : Addr) (s_BUY : Addr) (K : Ctx Z h0 s_SELL s_BUY) (p0 : Int32) (p1 : Int64) (hc : (p1 + ((((p0 >>> ((2 : Int32) &&& 31)) &&& (3 : Int32)) - (1 : Int32)).toInt64)) < p1) :
    MetFree l (⟨"java/lang/Math", "min", "(JJ)J"⟩ : MethodName) (head1 (Jvm.Cond.code (⟨"java/lang/Math", "min", "(JJ)J"⟩ : MethodName) jdk_29_method_70_code 4 (some .long) :: ws) ({ frames := 0, cells := 0, slots := 0, locals := 0 } : Room)) (fun a U => a = #[(.long p1), (.long (p1 + ((((p0 >>> ((2 : Int32) &&& 31)) &&& (3 : Int32)) - (1 : Int32)).toInt64)))] ∧ Z.Warmed39 U.vm ∧ U.heap = h0) (fun _ _ _ _ _ => True) (fun _ U o U' => ∃ v L, o = .returned v ∧ QV (.long (p1 + ((((p0 >>> ((2 : Int32) &&& 31)) &&& (3 : Int32)) - (1 : Int32)).toInt64))) h0 n0 v U'.heap L ∧ FrameEnd U o U' L ({ frames := 0, cells := 0, slots := 0, locals := 0 } : Room).cells ({ frames := 0, cells := 0, slots := 0, locals := 0 } : Room).slots) := by
  obtain ⟨S_SELL, S_BUY, ne_BUY_SELL, E_SELL, E_BUY⟩ := id K
  refine MetFree.of_bodySF (Jvm.Free.JP.mathPlain rfl (by decide +kernel)) hisR ?_
  intro p e s m args below meth c s₁ Bd hml0 hP hK
  obtain ⟨rfl, hZ, hh⟩ := hP
  have hx := Bd.exec
  have hby := Bd.bytes
  have hml : c.maxLocals = 4 := hml0
  have hown : s.vm.findClass "java/lang/Math" = some m.cls := findClass_of_methodNamed Bd.named
  have X0 : Stand p l e ({ frames := 0, cells := 0, slots := 0, locals := 0 } : Room) s m #[(.long p1), (.long (p1 + ((((p0 >>> ((2 : Int32) &&& 31)) &&& (3 : Int32)) - (1 : Int32)).toInt64)))] below meth c s₁ [] 0 0 := Stand.of_body Bd
  have e0 : s₁.heap = h0 := by rw [← hh, Bd.state]; rfl
  have N0 := Fr.nil n0
  have pre0 : ∀ t, Steps p.tables e below (s₁.setTop (mkF m 0 #[.val (.long p1), .second, .val (.long (p1 + ((((p0 >>> ((2 : Int32) &&& 31)) &&& (3 : Int32)) - (1 : Int32)).toInt64))), .second] [])) t → Steps p.tables e below (s₁.setTop (entryFrame m #[(.long p1), (.long (p1 + ((((p0 >>> ((2 : Int32) &&& 31)) &&& (3 : Int32)) - (1 : Int32)).toInt64)))] 4)) t := fun t k => castTop (by first | (simp [entryFrame, mkF, argsToLocals, Value.category]; done) | rfl) k
  obtain ⟨fs, hr, hrun, hended, hW, hsame⟩ := X0.leave (v := some (.long (p1 + ((((p0 >>> ((2 : Int32) &&& 31)) &&& (3 : Int32)) - (1 : Int32)).toInt64)))) (fun h => by rw [Bd.returns] at h; cases h)
  refine ⟨_, _, pre0 _ ?_, hrun, hended, _, _, rfl, ?_, ⟨_, rfl⟩, hW, hsame.mono (by decide) (by decide)⟩
  · show Steps p.tables e below (s₁.setTop (mkF m 0 #[.val (.long p1), .second, .val (.long (p1 + ((((p0 >>> ((2 : Int32) &&& 31)) &&& (3 : Int32)) - (1 : Int32)).toInt64))), .second] [])) _
    refine XS.lloadN X0.here hx rfl (hb hby d1_0) rfl ?_
    show Steps p.tables e below (s₁.setTop (mkF m 1 #[.val (.long p1), .second, .val (.long (p1 + ((((p0 >>> ((2 : Int32) &&& 31)) &&& (3 : Int32)) - (1 : Int32)).toInt64))), .second] [(.long p1)])) _
    refine XS.lloadN X0.here hx rfl (hb hby d1_1) rfl ?_
    show Steps p.tables e below (s₁.setTop (mkF m 2 #[.val (.long p1), .second, .val (.long (p1 + ((((p0 >>> ((2 : Int32) &&& 31)) &&& (3 : Int32)) - (1 : Int32)).toInt64))), .second] [(.long (p1 + ((((p0 >>> ((2 : Int32) &&& 31)) &&& (3 : Int32)) - (1 : Int32)).toInt64))), (.long p1)])) _
    refine XS.lcmp X0.here hx rfl (hb hby d1_2) rfl ?_
    show Steps p.tables e below (s₁.setTop (mkF m 3 #[.val (.long p1), .second, .val (.long (p1 + ((((p0 >>> ((2 : Int32) &&& 31)) &&& (3 : Int32)) - (1 : Int32)).toInt64))), .second] [(.int (lcmpW p1 (p1 + ((((p0 >>> ((2 : Int32) &&& 31)) &&& (3 : Int32)) - (1 : Int32)).toInt64))))])) _
    rw [own_lr_lt hc]
    show Steps p.tables e below (s₁.setTop (mkF m 3 #[.val (.long p1), .second, .val (.long (p1 + ((((p0 >>> ((2 : Int32) &&& 31)) &&& (3 : Int32)) - (1 : Int32)).toInt64))), .second] [(.int (1 : Int32))])) _
    refine XS.ifYes X0.here hx rfl (pc0 := 3) (pc' := 10) rfl (hb hby d1_3) rfl (by decide +kernel) (by decide) (by decide) ?_
    show Steps p.tables e below (s₁.setTop (mkF m 10 #[.val (.long p1), .second, .val (.long (p1 + ((((p0 >>> ((2 : Int32) &&& 31)) &&& (3 : Int32)) - (1 : Int32)).toInt64))), .second] [])) _
    refine XS.lloadN X0.here hx rfl (hb hby d1_10) rfl ?_
    show Steps p.tables e below (s₁.setTop (mkF m 11 #[.val (.long p1), .second, .val (.long (p1 + ((((p0 >>> ((2 : Int32) &&& 31)) &&& (3 : Int32)) - (1 : Int32)).toInt64))), .second] [(.long (p1 + ((((p0 >>> ((2 : Int32) &&& 31)) &&& (3 : Int32)) - (1 : Int32)).toInt64)))])) _
    exact retOut X0 hx (i := .lreturn) Bd.returns rfl (Or.inr (Or.inl ⟨rfl, rfl, _, rfl⟩)) (hb hby d1_11) hr
  · exact ⟨rfl, N0, e0⟩
set_option maxRecDepth 65536 in
set_option maxHeartbeats 40000000 in
theorem law_k0_2_lt (l : Launch) (Z : State) (a0 : Array Value) (hw : ∀ d ∈ tables_1, d.before a0 Z = true) (ws : List Jvm.Cond) (h0 : Heap) (n0 : Nat) (s_SELL : Addr) (s_BUY : Addr) (K : Ctx Z h0 s_SELL s_BUY) (p0 : Int32) (p1 : Int64) (p2 : Int64) (ha : (p0 &&& (1 : Int32)) = (0 : Int32)) (hb1 : (p0 &&& (2 : Int32)) = (2 : Int32)) (hc : (p1 + ((((p0 >>> ((2 : Int32) &&& 31)) &&& (3 : Int32)) - (1 : Int32)).toInt64)) < p1) :
    MetFree l x (head1 (Jvm.Cond.code x code maxLocals ret :: ws) room_1) (fun a U => a = #[(.int p0), (.long p1), (.long p2)] ∧ Z.Warmed39 U.vm ∧ U.heap = h0) (fun _ _ _ _ _ => True) (fun _ U o U' => ∃ v L, o = .returned v ∧ QV (.int (1 : Int32)) h0 n0 v U'.heap L ∧ FrameEnd U o U' L room_1.cells room_1.slots) := by
  obtain ⟨S_SELL, S_BUY, ne_BUY_SELL, E_SELL, E_BUY⟩ := id K
  refine MetFree.of_bodySF (plainFor_of_name pn3) hisR ?_
  intro p e s m args below meth c s₁ Bd hml0 hP hK
  obtain ⟨rfl, hZ, hh⟩ := hP
  have hx := Bd.exec
  have hby := Bd.bytes
  have hml : c.maxLocals = 12 := hml0
  have hown : s.vm.findClass "com/example/bookfence/bookfence/engine/SideAllowsPinLaw" = some m.cls := findClass_of_methodNamed Bd.named
  have X0 : Stand p l e room_1 s m #[(.int p0), (.long p1), (.long p2)] below meth c s₁ [] 0 0 := Stand.of_body Bd
  have e0 : s₁.heap = h0 := by rw [← hh, Bd.state]; rfl
  have N0 := Fr.nil n0
  have pre0 : ∀ t, Steps p.tables e below (s₁.setTop (mkF m 0 #[.val (.int p0), .val (.long p1), .second, .val (.long p2), .second, .unset, .unset, .unset, .unset, .unset, .unset, .unset] [])) t → Steps p.tables e below (s₁.setTop (entryFrame m #[(.int p0), (.long p1), (.long p2)] maxLocals)) t := fun t k => castTop (by first | (simp [entryFrame, mkF, argsToLocals, Value.category, maxLocals]; done) | rfl) k
  obtain ⟨T1, X1, e1, st1⟩ := getS X0 hx hZ hown (host := "") (hw _ (List.mem_of_getElem? (i := 0) rfl)) Via.refl e0 S_SELL (g := (mkF m 12 #[.val (.int p0), .val (.long p1), .second, .val (.long p2), .second, .unset, .unset, .unset, .unset, .unset, .unset, .unset] [])) rfl (hb hby at_12)
  obtain ⟨cq2, kq2, q2a, q2b, q2c⟩ := isOf hZ e1 E_SELL
  obtain ⟨_, _, ⟨T2, L2, k2, n2⟩, -, X2, ⟨Lc2, hQ2, l2, y2, z2⟩, st2⟩ := X1.virtualBack hx (y := (⟨"com/example/bookfence/bookfence/engine/Side", "allows", "(JJ)Z"⟩ : MethodName)) (z := (⟨"com/example/bookfence/bookfence/engine/Side", "allows", "(JJ)Z"⟩ : MethodName)) hown (mvT hZ (hw _ (List.mem_of_getElem? (i := 3) rfl))) (mvT hZ (hw _ (List.mem_of_getElem? (i := 4) rfl))) (notFace_of_selects (args := #[]) (mvT hZ (hw _ (List.mem_of_getElem? (i := 6) rfl)))) (mvT hZ (hw _ (List.mem_of_getElem? (i := 6) rfl))) (mvT hZ (hw _ (List.mem_of_getElem? (i := 5) rfl))) (by decide) (backOf (W := 0) (r9 l Z a0 hw [] h0 n0 s_SELL s_BUY K p0 p1 hc) hZ (hw _ (List.mem_of_getElem? (i := 7) rfl)) (hw _ (List.mem_of_getElem? (i := 1) rfl)) (by decide) (by decide)) q2a q2c (g := (mkF m 48 #[.val (.int p0), .val (.long p1), .second, .val (.long p2), .second, .val (.ref s_SELL), .val (.long ((((p0 >>> ((2 : Int32) &&& 31)) &&& (3 : Int32)) - (1 : Int32)).toInt64)), .second, .val (.long (p1 + ((((p0 >>> ((2 : Int32) &&& 31)) &&& (3 : Int32)) - (1 : Int32)).toInt64))), .second, .unset, .unset] [(.long (p1 + ((((p0 >>> ((2 : Int32) &&& 31)) &&& (3 : Int32)) - (1 : Int32)).toInt64))), (.long p1), (.ref s_SELL)])) rfl (by rw [hml]; rfl) (Steps.refl _) (argsL := [(.long p1), (.long (p1 + ((((p0 >>> ((2 : Int32) &&& 31)) &&& (3 : Int32)) - (1 : Int32)).toInt64)))]) (rest := []) (lenOf pd0 rfl) rfl (by show 2 * 0 + _ ≤ _; exact Nat.le_of_eq rfl) (hb hby at_48) (fun _ _ => ⟨rfl, e1, (by decide : 0 + 0 ≤ _), (by decide : 0 + 0 ≤ _)⟩)
  dsimp only [Pt.U, Pt.locs, Pt.cells, Pt.slots] at X2 l2 y2 z2 st2 hQ2
  subst l2 y2 z2
  obtain ⟨rfl, N2q, e2⟩ := hQ2
  have N2 := Fr.app N0 N2q
  obtain ⟨T3, X3, e3, st3⟩ := getS X2 hx hZ hown (host := "") (hw _ (List.mem_of_getElem? (i := 10) rfl)) Via.refl e2 S_BUY (g := (mkF m 55 #[.val (.int p0), .val (.long p1), .second, .val (.long p2), .second, .val (.ref s_SELL), .val (.long ((((p0 >>> ((2 : Int32) &&& 31)) &&& (3 : Int32)) - (1 : Int32)).toInt64)), .second, .val (.long (p1 + ((((p0 >>> ((2 : Int32) &&& 31)) &&& (3 : Int32)) - (1 : Int32)).toInt64))), .second, .val (.int (0 : Int32)), .unset] [(.ref s_SELL)])) rfl (hb hby at_55)
  obtain ⟨_, _, ⟨T4, L4, k4, n4⟩, -, X4, ⟨Lc4, hQ4, l4, y4, z4⟩, st4⟩ := Jvm.LawKit.callS X3 hx (y := (⟨"java/lang/Math", "min", "(JJ)J"⟩ : MethodName)) hown (mvT hZ (hw _ (List.mem_of_getElem? (i := 11) rfl))) (mvT hZ (hw _ (List.mem_of_getElem? (i := 12) rfl))) (mvT hZ (hw _ (List.mem_of_getElem? (i := 13) rfl))) (mvT hZ (hw _ (List.mem_of_getElem? (i := 14) rfl))) (by decide) (backOf (W := 0) (r10 l Z a0 hw [] h0 n0 s_SELL s_BUY K p0 p1 hc) hZ (hw _ (List.mem_of_getElem? (i := 14) rfl)) (hw _ (List.mem_of_getElem? (i := 13) rfl)) (by decide) (by decide)) (g := (mkF m 85 #[.val (.int p0), .val (.long p1), .second, .val (.long p2), .second, .val (.ref s_SELL), .val (.long ((((p0 >>> ((2 : Int32) &&& 31)) &&& (3 : Int32)) - (1 : Int32)).toInt64)), .second, .val (.long (p1 + ((((p0 >>> ((2 : Int32) &&& 31)) &&& (3 : Int32)) - (1 : Int32)).toInt64))), .second, .val (.int (0 : Int32)), .unset] [(.long (p1 + ((((p0 >>> ((2 : Int32) &&& 31)) &&& (3 : Int32)) - (1 : Int32)).toInt64))), (.long p1)])) rfl (by rw [hml]; rfl) (argsL := [(.long p1), (.long (p1 + ((((p0 >>> ((2 : Int32) &&& 31)) &&& (3 : Int32)) - (1 : Int32)).toInt64)))]) (rest := []) (lenOf pd1 rfl) rfl (by show 2 * 0 + _ ≤ _; exact Nat.le_of_eq rfl) (hb hby at_85) (fun _ _ => ⟨rfl, e3, (by decide : 0 + 0 ≤ _), (by decide : 0 + 0 ≤ _)⟩)
  dsimp only [Pt.U, Pt.locs, Pt.cells, Pt.slots] at X4 l4 y4 z4 st4 hQ4
  subst l4 y4 z4
  obtain ⟨rfl, N4q, e4⟩ := hQ4
  have N4 := Fr.app N2 N4q
  obtain ⟨fs, hr, hrun, hended, hW, hsame⟩ := X4.leave (v := some (.int (1 : Int32))) (fun h => by rw [Bd.returns] at h; cases h)
  refine ⟨_, _, pre0 _ ?_, hrun, hended, _, _, rfl, ?_, ⟨_, rfl⟩, hW, hsame.mono (by decide) (by decide)⟩
  · show Steps p.tables e below (s₁.setTop (mkF m 0 #[.val (.int p0), .val (.long p1), .second, .val (.long p2), .second, .unset, .unset, .unset, .unset, .unset, .unset, .unset] [])) _
    refine XS.iloadN X0.here hx rfl (hb hby at_0) rfl ?_
    show Steps p.tables e below (s₁.setTop (mkF m 1 #[.val (.int p0), .val (.long p1), .second, .val (.long p2), .second, .unset, .unset, .unset, .unset, .unset, .unset, .unset] [(.int p0)])) _
    refine XS.iconst X0.here hx rfl (hb hby at_1) ?_
    show Steps p.tables e below (s₁.setTop (mkF m 2 #[.val (.int p0), .val (.long p1), .second, .val (.long p2), .second, .unset, .unset, .unset, .unset, .unset, .unset, .unset] [(.int (1 : Int32)), (.int p0)])) _
    refine XS.iand X0.here hx rfl (hb hby at_2) rfl ?_
    show Steps p.tables e below (s₁.setTop (mkF m 3 #[.val (.int p0), .val (.long p1), .second, .val (.long p2), .second, .unset, .unset, .unset, .unset, .unset, .unset, .unset] [(.int (p0 &&& (1 : Int32)))])) _
    rw [ha]
    show Steps p.tables e below (s₁.setTop (mkF m 3 #[.val (.int p0), .val (.long p1), .second, .val (.long p2), .second, .unset, .unset, .unset, .unset, .unset, .unset, .unset] [(.int (0 : Int32))])) _
    refine XS.ifYes X0.here hx rfl (pc0 := 3) (pc' := 12) rfl (hb hby at_3) rfl (by decide +kernel) (by decide) (by decide) ?_
    show Steps p.tables e below (s₁.setTop (mkF m 12 #[.val (.int p0), .val (.long p1), .second, .val (.long p2), .second, .unset, .unset, .unset, .unset, .unset, .unset, .unset] [])) _
    refine st1 _ ?_
    show Steps p.tables e below (T1.setTop (mkF m 15 #[.val (.int p0), .val (.long p1), .second, .val (.long p2), .second, .unset, .unset, .unset, .unset, .unset, .unset, .unset] [(.ref s_SELL)])) _
    refine XS.astore X1.here hx rfl (hb hby at_15) rfl rfl (l' := #[.val (.int p0), .val (.long p1), .second, .val (.long p2), .second, .val (.ref s_SELL), .unset, .unset, .unset, .unset, .unset, .unset]) rfl ?_
    show Steps p.tables e below (T1.setTop (mkF m 17 #[.val (.int p0), .val (.long p1), .second, .val (.long p2), .second, .val (.ref s_SELL), .unset, .unset, .unset, .unset, .unset, .unset] [])) _
    refine XS.iloadN X1.here hx rfl (hb hby at_17) rfl ?_
    show Steps p.tables e below (T1.setTop (mkF m 18 #[.val (.int p0), .val (.long p1), .second, .val (.long p2), .second, .val (.ref s_SELL), .unset, .unset, .unset, .unset, .unset, .unset] [(.int p0)])) _
    refine XS.iconst X1.here hx rfl (hb hby at_18) ?_
    show Steps p.tables e below (T1.setTop (mkF m 19 #[.val (.int p0), .val (.long p1), .second, .val (.long p2), .second, .val (.ref s_SELL), .unset, .unset, .unset, .unset, .unset, .unset] [(.int (2 : Int32)), (.int p0)])) _
    refine XS.ishr X1.here hx rfl (hb hby at_19) rfl ?_
    show Steps p.tables e below (T1.setTop (mkF m 20 #[.val (.int p0), .val (.long p1), .second, .val (.long p2), .second, .val (.ref s_SELL), .unset, .unset, .unset, .unset, .unset, .unset] [(.int (p0 >>> ((2 : Int32) &&& 31)))])) _
    refine XS.iconst X1.here hx rfl (hb hby at_20) ?_
    show Steps p.tables e below (T1.setTop (mkF m 21 #[.val (.int p0), .val (.long p1), .second, .val (.long p2), .second, .val (.ref s_SELL), .unset, .unset, .unset, .unset, .unset, .unset] [(.int (3 : Int32)), (.int (p0 >>> ((2 : Int32) &&& 31)))])) _
    refine XS.iand X1.here hx rfl (hb hby at_21) rfl ?_
    show Steps p.tables e below (T1.setTop (mkF m 22 #[.val (.int p0), .val (.long p1), .second, .val (.long p2), .second, .val (.ref s_SELL), .unset, .unset, .unset, .unset, .unset, .unset] [(.int ((p0 >>> ((2 : Int32) &&& 31)) &&& (3 : Int32)))])) _
    refine XS.iconst X1.here hx rfl (hb hby at_22) ?_
    show Steps p.tables e below (T1.setTop (mkF m 23 #[.val (.int p0), .val (.long p1), .second, .val (.long p2), .second, .val (.ref s_SELL), .unset, .unset, .unset, .unset, .unset, .unset] [(.int (1 : Int32)), (.int ((p0 >>> ((2 : Int32) &&& 31)) &&& (3 : Int32)))])) _
    refine XS.isub X1.here hx rfl (hb hby at_23) rfl ?_
    show Steps p.tables e below (T1.setTop (mkF m 24 #[.val (.int p0), .val (.long p1), .second, .val (.long p2), .second, .val (.ref s_SELL), .unset, .unset, .unset, .unset, .unset, .unset] [(.int (((p0 >>> ((2 : Int32) &&& 31)) &&& (3 : Int32)) - (1 : Int32)))])) _
    refine XS.i2l X1.here hx rfl (hb hby at_24) rfl ?_
    show Steps p.tables e below (T1.setTop (mkF m 25 #[.val (.int p0), .val (.long p1), .second, .val (.long p2), .second, .val (.ref s_SELL), .unset, .unset, .unset, .unset, .unset, .unset] [(.long ((((p0 >>> ((2 : Int32) &&& 31)) &&& (3 : Int32)) - (1 : Int32)).toInt64))])) _
    refine XS.lstore X1.here hx rfl (hb hby at_25) rfl (l' := #[.val (.int p0), .val (.long p1), .second, .val (.long p2), .second, .val (.ref s_SELL), .val (.long ((((p0 >>> ((2 : Int32) &&& 31)) &&& (3 : Int32)) - (1 : Int32)).toInt64)), .second, .unset, .unset, .unset, .unset]) rfl ?_
    show Steps p.tables e below (T1.setTop (mkF m 27 #[.val (.int p0), .val (.long p1), .second, .val (.long p2), .second, .val (.ref s_SELL), .val (.long ((((p0 >>> ((2 : Int32) &&& 31)) &&& (3 : Int32)) - (1 : Int32)).toInt64)), .second, .unset, .unset, .unset, .unset] [])) _
    refine XS.iloadN X1.here hx rfl (hb hby at_27) rfl ?_
    show Steps p.tables e below (T1.setTop (mkF m 28 #[.val (.int p0), .val (.long p1), .second, .val (.long p2), .second, .val (.ref s_SELL), .val (.long ((((p0 >>> ((2 : Int32) &&& 31)) &&& (3 : Int32)) - (1 : Int32)).toInt64)), .second, .unset, .unset, .unset, .unset] [(.int p0)])) _
    refine XS.iconst X1.here hx rfl (hb hby at_28) ?_
    show Steps p.tables e below (T1.setTop (mkF m 29 #[.val (.int p0), .val (.long p1), .second, .val (.long p2), .second, .val (.ref s_SELL), .val (.long ((((p0 >>> ((2 : Int32) &&& 31)) &&& (3 : Int32)) - (1 : Int32)).toInt64)), .second, .unset, .unset, .unset, .unset] [(.int (2 : Int32)), (.int p0)])) _
    refine XS.iand X1.here hx rfl (hb hby at_29) rfl ?_
    show Steps p.tables e below (T1.setTop (mkF m 30 #[.val (.int p0), .val (.long p1), .second, .val (.long p2), .second, .val (.ref s_SELL), .val (.long ((((p0 >>> ((2 : Int32) &&& 31)) &&& (3 : Int32)) - (1 : Int32)).toInt64)), .second, .unset, .unset, .unset, .unset] [(.int (p0 &&& (2 : Int32)))])) _
    rw [hb1]
    show Steps p.tables e below (T1.setTop (mkF m 30 #[.val (.int p0), .val (.long p1), .second, .val (.long p2), .second, .val (.ref s_SELL), .val (.long ((((p0 >>> ((2 : Int32) &&& 31)) &&& (3 : Int32)) - (1 : Int32)).toInt64)), .second, .unset, .unset, .unset, .unset] [(.int (2 : Int32))])) _
    refine XS.ifNo X1.here hx rfl (hb hby at_30) rfl (by decide +kernel) ?_
    show Steps p.tables e below (T1.setTop (mkF m 33 #[.val (.int p0), .val (.long p1), .second, .val (.long p2), .second, .val (.ref s_SELL), .val (.long ((((p0 >>> ((2 : Int32) &&& 31)) &&& (3 : Int32)) - (1 : Int32)).toInt64)), .second, .unset, .unset, .unset, .unset] [])) _
    refine XS.lloadN X1.here hx rfl (hb hby at_33) rfl ?_
    show Steps p.tables e below (T1.setTop (mkF m 34 #[.val (.int p0), .val (.long p1), .second, .val (.long p2), .second, .val (.ref s_SELL), .val (.long ((((p0 >>> ((2 : Int32) &&& 31)) &&& (3 : Int32)) - (1 : Int32)).toInt64)), .second, .unset, .unset, .unset, .unset] [(.long p1)])) _
    refine XS.lload X1.here hx rfl (hb hby at_34) rfl ?_
    show Steps p.tables e below (T1.setTop (mkF m 36 #[.val (.int p0), .val (.long p1), .second, .val (.long p2), .second, .val (.ref s_SELL), .val (.long ((((p0 >>> ((2 : Int32) &&& 31)) &&& (3 : Int32)) - (1 : Int32)).toInt64)), .second, .unset, .unset, .unset, .unset] [(.long ((((p0 >>> ((2 : Int32) &&& 31)) &&& (3 : Int32)) - (1 : Int32)).toInt64)), (.long p1)])) _
    refine XS.ladd X1.here hx rfl (hb hby at_36) rfl ?_
    show Steps p.tables e below (T1.setTop (mkF m 37 #[.val (.int p0), .val (.long p1), .second, .val (.long p2), .second, .val (.ref s_SELL), .val (.long ((((p0 >>> ((2 : Int32) &&& 31)) &&& (3 : Int32)) - (1 : Int32)).toInt64)), .second, .unset, .unset, .unset, .unset] [(.long (p1 + ((((p0 >>> ((2 : Int32) &&& 31)) &&& (3 : Int32)) - (1 : Int32)).toInt64)))])) _
    refine XS.goto X1.here hx rfl (pc0 := 37) (pc' := 41) rfl (hb hby at_37) (by decide) (by decide) ?_
    show Steps p.tables e below (T1.setTop (mkF m 41 #[.val (.int p0), .val (.long p1), .second, .val (.long p2), .second, .val (.ref s_SELL), .val (.long ((((p0 >>> ((2 : Int32) &&& 31)) &&& (3 : Int32)) - (1 : Int32)).toInt64)), .second, .unset, .unset, .unset, .unset] [(.long (p1 + ((((p0 >>> ((2 : Int32) &&& 31)) &&& (3 : Int32)) - (1 : Int32)).toInt64)))])) _
    refine XS.lstore X1.here hx rfl (hb hby at_41) rfl (l' := #[.val (.int p0), .val (.long p1), .second, .val (.long p2), .second, .val (.ref s_SELL), .val (.long ((((p0 >>> ((2 : Int32) &&& 31)) &&& (3 : Int32)) - (1 : Int32)).toInt64)), .second, .val (.long (p1 + ((((p0 >>> ((2 : Int32) &&& 31)) &&& (3 : Int32)) - (1 : Int32)).toInt64))), .second, .unset, .unset]) rfl ?_
    show Steps p.tables e below (T1.setTop (mkF m 43 #[.val (.int p0), .val (.long p1), .second, .val (.long p2), .second, .val (.ref s_SELL), .val (.long ((((p0 >>> ((2 : Int32) &&& 31)) &&& (3 : Int32)) - (1 : Int32)).toInt64)), .second, .val (.long (p1 + ((((p0 >>> ((2 : Int32) &&& 31)) &&& (3 : Int32)) - (1 : Int32)).toInt64))), .second, .unset, .unset] [])) _
    refine XS.aload X1.here hx rfl (hb hby at_43) rfl rfl ?_
    show Steps p.tables e below (T1.setTop (mkF m 45 #[.val (.int p0), .val (.long p1), .second, .val (.long p2), .second, .val (.ref s_SELL), .val (.long ((((p0 >>> ((2 : Int32) &&& 31)) &&& (3 : Int32)) - (1 : Int32)).toInt64)), .second, .val (.long (p1 + ((((p0 >>> ((2 : Int32) &&& 31)) &&& (3 : Int32)) - (1 : Int32)).toInt64))), .second, .unset, .unset] [(.ref s_SELL)])) _
    refine XS.lloadN X1.here hx rfl (hb hby at_45) rfl ?_
    show Steps p.tables e below (T1.setTop (mkF m 46 #[.val (.int p0), .val (.long p1), .second, .val (.long p2), .second, .val (.ref s_SELL), .val (.long ((((p0 >>> ((2 : Int32) &&& 31)) &&& (3 : Int32)) - (1 : Int32)).toInt64)), .second, .val (.long (p1 + ((((p0 >>> ((2 : Int32) &&& 31)) &&& (3 : Int32)) - (1 : Int32)).toInt64))), .second, .unset, .unset] [(.long p1), (.ref s_SELL)])) _
    refine XS.lload X1.here hx rfl (hb hby at_46) rfl ?_
    show Steps p.tables e below (T1.setTop (mkF m 48 #[.val (.int p0), .val (.long p1), .second, .val (.long p2), .second, .val (.ref s_SELL), .val (.long ((((p0 >>> ((2 : Int32) &&& 31)) &&& (3 : Int32)) - (1 : Int32)).toInt64)), .second, .val (.long (p1 + ((((p0 >>> ((2 : Int32) &&& 31)) &&& (3 : Int32)) - (1 : Int32)).toInt64))), .second, .unset, .unset] [(.long (p1 + ((((p0 >>> ((2 : Int32) &&& 31)) &&& (3 : Int32)) - (1 : Int32)).toInt64))), (.long p1), (.ref s_SELL)])) _
    refine st2.trans ?_
    show Steps p.tables e below (T2.setTop (mkF m 51 #[.val (.int p0), .val (.long p1), .second, .val (.long p2), .second, .val (.ref s_SELL), .val (.long ((((p0 >>> ((2 : Int32) &&& 31)) &&& (3 : Int32)) - (1 : Int32)).toInt64)), .second, .val (.long (p1 + ((((p0 >>> ((2 : Int32) &&& 31)) &&& (3 : Int32)) - (1 : Int32)).toInt64))), .second, .unset, .unset] [(.int (0 : Int32))])) _
    refine XS.istore X2.here hx rfl (hb hby at_51) rfl (l' := #[.val (.int p0), .val (.long p1), .second, .val (.long p2), .second, .val (.ref s_SELL), .val (.long ((((p0 >>> ((2 : Int32) &&& 31)) &&& (3 : Int32)) - (1 : Int32)).toInt64)), .second, .val (.long (p1 + ((((p0 >>> ((2 : Int32) &&& 31)) &&& (3 : Int32)) - (1 : Int32)).toInt64))), .second, .val (.int (0 : Int32)), .unset]) rfl ?_
    show Steps p.tables e below (T2.setTop (mkF m 53 #[.val (.int p0), .val (.long p1), .second, .val (.long p2), .second, .val (.ref s_SELL), .val (.long ((((p0 >>> ((2 : Int32) &&& 31)) &&& (3 : Int32)) - (1 : Int32)).toInt64)), .second, .val (.long (p1 + ((((p0 >>> ((2 : Int32) &&& 31)) &&& (3 : Int32)) - (1 : Int32)).toInt64))), .second, .val (.int (0 : Int32)), .unset] [])) _
    refine XS.aload X2.here hx rfl (hb hby at_53) rfl rfl ?_
    show Steps p.tables e below (T2.setTop (mkF m 55 #[.val (.int p0), .val (.long p1), .second, .val (.long p2), .second, .val (.ref s_SELL), .val (.long ((((p0 >>> ((2 : Int32) &&& 31)) &&& (3 : Int32)) - (1 : Int32)).toInt64)), .second, .val (.long (p1 + ((((p0 >>> ((2 : Int32) &&& 31)) &&& (3 : Int32)) - (1 : Int32)).toInt64))), .second, .val (.int (0 : Int32)), .unset] [(.ref s_SELL)])) _
    refine st3 _ ?_
    show Steps p.tables e below (T3.setTop (mkF m 58 #[.val (.int p0), .val (.long p1), .second, .val (.long p2), .second, .val (.ref s_SELL), .val (.long ((((p0 >>> ((2 : Int32) &&& 31)) &&& (3 : Int32)) - (1 : Int32)).toInt64)), .second, .val (.long (p1 + ((((p0 >>> ((2 : Int32) &&& 31)) &&& (3 : Int32)) - (1 : Int32)).toInt64))), .second, .val (.int (0 : Int32)), .unset] [(.ref s_BUY), (.ref s_SELL)])) _
    refine Jvm.RoadKit.acmp (g := (mkF m 58 #[.val (.int p0), .val (.long p1), .second, .val (.long p2), .second, .val (.ref s_SELL), .val (.long ((((p0 >>> ((2 : Int32) &&& 31)) &&& (3 : Int32)) - (1 : Int32)).toInt64)), .second, .val (.long (p1 + ((((p0 >>> ((2 : Int32) &&& 31)) &&& (3 : Int32)) - (1 : Int32)).toInt64))), .second, .val (.int (0 : Int32)), .unset] [(.ref s_BUY), (.ref s_SELL)])) X3 hx rfl rfl rfl (pc0 := 58) (pc' := 82) (same := false) rfl (hb hby at_58) rfl (decide_eq_false fun q => (Ne.symm ne_BUY_SELL) (Value.ref.inj q)) (by decide) (by decide) ?_
    show Steps p.tables e below (T3.setTop (mkF m 82 #[.val (.int p0), .val (.long p1), .second, .val (.long p2), .second, .val (.ref s_SELL), .val (.long ((((p0 >>> ((2 : Int32) &&& 31)) &&& (3 : Int32)) - (1 : Int32)).toInt64)), .second, .val (.long (p1 + ((((p0 >>> ((2 : Int32) &&& 31)) &&& (3 : Int32)) - (1 : Int32)).toInt64))), .second, .val (.int (0 : Int32)), .unset] [])) _
    refine XS.lloadN X3.here hx rfl (hb hby at_82) rfl ?_
    show Steps p.tables e below (T3.setTop (mkF m 83 #[.val (.int p0), .val (.long p1), .second, .val (.long p2), .second, .val (.ref s_SELL), .val (.long ((((p0 >>> ((2 : Int32) &&& 31)) &&& (3 : Int32)) - (1 : Int32)).toInt64)), .second, .val (.long (p1 + ((((p0 >>> ((2 : Int32) &&& 31)) &&& (3 : Int32)) - (1 : Int32)).toInt64))), .second, .val (.int (0 : Int32)), .unset] [(.long p1)])) _
    refine XS.lload X3.here hx rfl (hb hby at_83) rfl ?_
    show Steps p.tables e below (T3.setTop (mkF m 85 #[.val (.int p0), .val (.long p1), .second, .val (.long p2), .second, .val (.ref s_SELL), .val (.long ((((p0 >>> ((2 : Int32) &&& 31)) &&& (3 : Int32)) - (1 : Int32)).toInt64)), .second, .val (.long (p1 + ((((p0 >>> ((2 : Int32) &&& 31)) &&& (3 : Int32)) - (1 : Int32)).toInt64))), .second, .val (.int (0 : Int32)), .unset] [(.long (p1 + ((((p0 >>> ((2 : Int32) &&& 31)) &&& (3 : Int32)) - (1 : Int32)).toInt64))), (.long p1)])) _
    refine st4 _ ?_
    show Steps p.tables e below (T4.setTop (mkF m 88 #[.val (.int p0), .val (.long p1), .second, .val (.long p2), .second, .val (.ref s_SELL), .val (.long ((((p0 >>> ((2 : Int32) &&& 31)) &&& (3 : Int32)) - (1 : Int32)).toInt64)), .second, .val (.long (p1 + ((((p0 >>> ((2 : Int32) &&& 31)) &&& (3 : Int32)) - (1 : Int32)).toInt64))), .second, .val (.int (0 : Int32)), .unset] [(.long (p1 + ((((p0 >>> ((2 : Int32) &&& 31)) &&& (3 : Int32)) - (1 : Int32)).toInt64)))])) _
    refine XS.lloadN X4.here hx rfl (hb hby at_88) rfl ?_
    show Steps p.tables e below (T4.setTop (mkF m 89 #[.val (.int p0), .val (.long p1), .second, .val (.long p2), .second, .val (.ref s_SELL), .val (.long ((((p0 >>> ((2 : Int32) &&& 31)) &&& (3 : Int32)) - (1 : Int32)).toInt64)), .second, .val (.long (p1 + ((((p0 >>> ((2 : Int32) &&& 31)) &&& (3 : Int32)) - (1 : Int32)).toInt64))), .second, .val (.int (0 : Int32)), .unset] [(.long p1), (.long (p1 + ((((p0 >>> ((2 : Int32) &&& 31)) &&& (3 : Int32)) - (1 : Int32)).toInt64)))])) _
    refine XS.lcmp X4.here hx rfl (hb hby at_89) rfl ?_
    show Steps p.tables e below (T4.setTop (mkF m 90 #[.val (.int p0), .val (.long p1), .second, .val (.long p2), .second, .val (.ref s_SELL), .val (.long ((((p0 >>> ((2 : Int32) &&& 31)) &&& (3 : Int32)) - (1 : Int32)).toInt64)), .second, .val (.long (p1 + ((((p0 >>> ((2 : Int32) &&& 31)) &&& (3 : Int32)) - (1 : Int32)).toInt64))), .second, .val (.int (0 : Int32)), .unset] [(.int (lcmpW (p1 + ((((p0 >>> ((2 : Int32) &&& 31)) &&& (3 : Int32)) - (1 : Int32)).toInt64)) p1))])) _
    rw [own_lc_lt hc]
    show Steps p.tables e below (T4.setTop (mkF m 90 #[.val (.int p0), .val (.long p1), .second, .val (.long p2), .second, .val (.ref s_SELL), .val (.long ((((p0 >>> ((2 : Int32) &&& 31)) &&& (3 : Int32)) - (1 : Int32)).toInt64)), .second, .val (.long (p1 + ((((p0 >>> ((2 : Int32) &&& 31)) &&& (3 : Int32)) - (1 : Int32)).toInt64))), .second, .val (.int (0 : Int32)), .unset] [(.int (-1 : Int32))])) _
    refine XS.ifYes X4.here hx rfl (pc0 := 90) (pc' := 97) rfl (hb hby at_90) rfl (by decide +kernel) (by decide) (by decide) ?_
    show Steps p.tables e below (T4.setTop (mkF m 97 #[.val (.int p0), .val (.long p1), .second, .val (.long p2), .second, .val (.ref s_SELL), .val (.long ((((p0 >>> ((2 : Int32) &&& 31)) &&& (3 : Int32)) - (1 : Int32)).toInt64)), .second, .val (.long (p1 + ((((p0 >>> ((2 : Int32) &&& 31)) &&& (3 : Int32)) - (1 : Int32)).toInt64))), .second, .val (.int (0 : Int32)), .unset] [])) _
    refine XS.iconst X4.here hx rfl (hb hby at_97) ?_
    show Steps p.tables e below (T4.setTop (mkF m 98 #[.val (.int p0), .val (.long p1), .second, .val (.long p2), .second, .val (.ref s_SELL), .val (.long ((((p0 >>> ((2 : Int32) &&& 31)) &&& (3 : Int32)) - (1 : Int32)).toInt64)), .second, .val (.long (p1 + ((((p0 >>> ((2 : Int32) &&& 31)) &&& (3 : Int32)) - (1 : Int32)).toInt64))), .second, .val (.int (0 : Int32)), .unset] [(.int (0 : Int32))])) _
    refine XS.istore X4.here hx rfl (hb hby at_98) rfl (l' := #[.val (.int p0), .val (.long p1), .second, .val (.long p2), .second, .val (.ref s_SELL), .val (.long ((((p0 >>> ((2 : Int32) &&& 31)) &&& (3 : Int32)) - (1 : Int32)).toInt64)), .second, .val (.long (p1 + ((((p0 >>> ((2 : Int32) &&& 31)) &&& (3 : Int32)) - (1 : Int32)).toInt64))), .second, .val (.int (0 : Int32)), .val (.int (0 : Int32))]) rfl ?_
    show Steps p.tables e below (T4.setTop (mkF m 100 #[.val (.int p0), .val (.long p1), .second, .val (.long p2), .second, .val (.ref s_SELL), .val (.long ((((p0 >>> ((2 : Int32) &&& 31)) &&& (3 : Int32)) - (1 : Int32)).toInt64)), .second, .val (.long (p1 + ((((p0 >>> ((2 : Int32) &&& 31)) &&& (3 : Int32)) - (1 : Int32)).toInt64))), .second, .val (.int (0 : Int32)), .val (.int (0 : Int32))] [])) _
    refine XS.iload X4.here hx rfl (hb hby at_100) rfl ?_
    show Steps p.tables e below (T4.setTop (mkF m 102 #[.val (.int p0), .val (.long p1), .second, .val (.long p2), .second, .val (.ref s_SELL), .val (.long ((((p0 >>> ((2 : Int32) &&& 31)) &&& (3 : Int32)) - (1 : Int32)).toInt64)), .second, .val (.long (p1 + ((((p0 >>> ((2 : Int32) &&& 31)) &&& (3 : Int32)) - (1 : Int32)).toInt64))), .second, .val (.int (0 : Int32)), .val (.int (0 : Int32))] [(.int (0 : Int32))])) _
    refine XS.iload X4.here hx rfl (hb hby at_102) rfl ?_
    show Steps p.tables e below (T4.setTop (mkF m 104 #[.val (.int p0), .val (.long p1), .second, .val (.long p2), .second, .val (.ref s_SELL), .val (.long ((((p0 >>> ((2 : Int32) &&& 31)) &&& (3 : Int32)) - (1 : Int32)).toInt64)), .second, .val (.long (p1 + ((((p0 >>> ((2 : Int32) &&& 31)) &&& (3 : Int32)) - (1 : Int32)).toInt64))), .second, .val (.int (0 : Int32)), .val (.int (0 : Int32))] [(.int (0 : Int32)), (.int (0 : Int32))])) _
    refine XS.icmpNo X4.here hx rfl (hb hby at_104) rfl (by decide +kernel) ?_
    show Steps p.tables e below (T4.setTop (mkF m 107 #[.val (.int p0), .val (.long p1), .second, .val (.long p2), .second, .val (.ref s_SELL), .val (.long ((((p0 >>> ((2 : Int32) &&& 31)) &&& (3 : Int32)) - (1 : Int32)).toInt64)), .second, .val (.long (p1 + ((((p0 >>> ((2 : Int32) &&& 31)) &&& (3 : Int32)) - (1 : Int32)).toInt64))), .second, .val (.int (0 : Int32)), .val (.int (0 : Int32))] [])) _
    refine XS.iconst X4.here hx rfl (hb hby at_107) ?_
    show Steps p.tables e below (T4.setTop (mkF m 108 #[.val (.int p0), .val (.long p1), .second, .val (.long p2), .second, .val (.ref s_SELL), .val (.long ((((p0 >>> ((2 : Int32) &&& 31)) &&& (3 : Int32)) - (1 : Int32)).toInt64)), .second, .val (.long (p1 + ((((p0 >>> ((2 : Int32) &&& 31)) &&& (3 : Int32)) - (1 : Int32)).toInt64))), .second, .val (.int (0 : Int32)), .val (.int (0 : Int32))] [(.int (1 : Int32))])) _
    refine XS.goto X4.here hx rfl (pc0 := 108) (pc' := 112) rfl (hb hby at_108) (by decide) (by decide) ?_
    show Steps p.tables e below (T4.setTop (mkF m 112 #[.val (.int p0), .val (.long p1), .second, .val (.long p2), .second, .val (.ref s_SELL), .val (.long ((((p0 >>> ((2 : Int32) &&& 31)) &&& (3 : Int32)) - (1 : Int32)).toInt64)), .second, .val (.long (p1 + ((((p0 >>> ((2 : Int32) &&& 31)) &&& (3 : Int32)) - (1 : Int32)).toInt64))), .second, .val (.int (0 : Int32)), .val (.int (0 : Int32))] [(.int (1 : Int32))])) _
    exact retN X4 hx (t := .boolean) Bd.returns (by simp) (hb hby at_112) hr
  · exact ⟨rfl, N4, e4⟩
set_option maxRecDepth 65536 in
set_option maxHeartbeats 40000000 in
theorem r12 (l : Launch) (Z : State) (a0 : Array Value) (hw : ∀ d ∈ tables_1, d.before a0 Z = true) (ws : List Jvm.Cond) (h0 : Heap) (n0 : Nat) (s_SELL : Addr) (s_BUY : Addr) (K : Ctx Z h0 s_SELL s_BUY) (p0 : Int32) (p1 : Int64) (hc : (p1 + ((((p0 >>> ((2 : Int32) &&& 31)) &&& (3 : Int32)) - (1 : Int32)).toInt64)) = p1) :
    MetFree l (⟨"com/example/bookfence/bookfence/engine/Side", "allows", "(JJ)Z"⟩ : MethodName) (head1 (Jvm.Cond.code (⟨"com/example/bookfence/bookfence/engine/Side", "allows", "(JJ)Z"⟩ : MethodName) prog_44_method_5_code 5 (some .boolean) :: ws) ({ frames := 0, cells := 0, slots := 0, locals := 0 } : Room)) (fun a U => a = #[(.ref s_SELL), (.long p1), (.long (p1 + ((((p0 >>> ((2 : Int32) &&& 31)) &&& (3 : Int32)) - (1 : Int32)).toInt64)))] ∧ Z.Warmed39 U.vm ∧ U.heap = h0) (fun _ _ _ _ _ => True) (fun _ U o U' => ∃ v L, o = .returned v ∧ QV (.int (1 : Int32)) h0 n0 v U'.heap L ∧ FrameEnd U o U' L ({ frames := 0, cells := 0, slots := 0, locals := 0 } : Room).cells ({ frames := 0, cells := 0, slots := 0, locals := 0 } : Room).slots) := by
  obtain ⟨S_SELL, S_BUY, ne_BUY_SELL, E_SELL, E_BUY⟩ := id K
  refine MetFree.of_bodySF (plainFor_of_name pn0) hisR ?_
  intro p e s m args below meth c s₁ Bd hml0 hP hK
  obtain ⟨rfl, hZ, hh⟩ := hP
  have hx := Bd.exec
  have hby := Bd.bytes
  have hml : c.maxLocals = 5 := hml0
  have hown : s.vm.findClass "com/example/bookfence/bookfence/engine/Side" = some m.cls := findClass_of_methodNamed Bd.named
  have X0 : Stand p l e ({ frames := 0, cells := 0, slots := 0, locals := 0 } : Room) s m #[(.ref s_SELL), (.long p1), (.long (p1 + ((((p0 >>> ((2 : Int32) &&& 31)) &&& (3 : Int32)) - (1 : Int32)).toInt64)))] below meth c s₁ [] 0 0 := Stand.of_body Bd
  have e0 : s₁.heap = h0 := by rw [← hh, Bd.state]; rfl
  have N0 := Fr.nil n0
  have pre0 : ∀ t, Steps p.tables e below (s₁.setTop (mkF m 0 #[.val (.ref s_SELL), .val (.long p1), .second, .val (.long (p1 + ((((p0 >>> ((2 : Int32) &&& 31)) &&& (3 : Int32)) - (1 : Int32)).toInt64))), .second] [])) t → Steps p.tables e below (s₁.setTop (entryFrame m #[(.ref s_SELL), (.long p1), (.long (p1 + ((((p0 >>> ((2 : Int32) &&& 31)) &&& (3 : Int32)) - (1 : Int32)).toInt64)))] 5)) t := fun t k => castTop (by first | (simp [entryFrame, mkF, argsToLocals, Value.category]; done) | rfl) k
  obtain ⟨T1, X1, e1, st1⟩ := getS X0 hx hZ hown (host := "") (hw _ (List.mem_of_getElem? (i := 8) rfl)) Via.refl e0 S_BUY (g := (mkF m 1 #[.val (.ref s_SELL), .val (.long p1), .second, .val (.long (p1 + ((((p0 >>> ((2 : Int32) &&& 31)) &&& (3 : Int32)) - (1 : Int32)).toInt64))), .second] [(.ref s_SELL)])) rfl (hb hby d0_1)
  obtain ⟨fs, hr, hrun, hended, hW, hsame⟩ := X1.leave (v := some (.int (1 : Int32))) (fun h => by rw [Bd.returns] at h; cases h)
  refine ⟨_, _, pre0 _ ?_, hrun, hended, _, _, rfl, ?_, ⟨_, rfl⟩, hW, hsame.mono (by decide) (by decide)⟩
  · show Steps p.tables e below (s₁.setTop (mkF m 0 #[.val (.ref s_SELL), .val (.long p1), .second, .val (.long (p1 + ((((p0 >>> ((2 : Int32) &&& 31)) &&& (3 : Int32)) - (1 : Int32)).toInt64))), .second] [])) _
    refine XS.aloadN X0.here hx rfl (hb hby d0_0) rfl rfl ?_
    show Steps p.tables e below (s₁.setTop (mkF m 1 #[.val (.ref s_SELL), .val (.long p1), .second, .val (.long (p1 + ((((p0 >>> ((2 : Int32) &&& 31)) &&& (3 : Int32)) - (1 : Int32)).toInt64))), .second] [(.ref s_SELL)])) _
    refine st1 _ ?_
    show Steps p.tables e below (T1.setTop (mkF m 4 #[.val (.ref s_SELL), .val (.long p1), .second, .val (.long (p1 + ((((p0 >>> ((2 : Int32) &&& 31)) &&& (3 : Int32)) - (1 : Int32)).toInt64))), .second] [(.ref s_BUY), (.ref s_SELL)])) _
    refine Jvm.RoadKit.acmp (g := (mkF m 4 #[.val (.ref s_SELL), .val (.long p1), .second, .val (.long (p1 + ((((p0 >>> ((2 : Int32) &&& 31)) &&& (3 : Int32)) - (1 : Int32)).toInt64))), .second] [(.ref s_BUY), (.ref s_SELL)])) X1 hx rfl rfl rfl (pc0 := 4) (pc' := 21) (same := false) rfl (hb hby d0_4) rfl (decide_eq_false fun q => (Ne.symm ne_BUY_SELL) (Value.ref.inj q)) (by decide) (by decide) ?_
    show Steps p.tables e below (T1.setTop (mkF m 21 #[.val (.ref s_SELL), .val (.long p1), .second, .val (.long (p1 + ((((p0 >>> ((2 : Int32) &&& 31)) &&& (3 : Int32)) - (1 : Int32)).toInt64))), .second] [])) _
    refine XS.lloadN X1.here hx rfl (hb hby d0_21) rfl ?_
    show Steps p.tables e below (T1.setTop (mkF m 22 #[.val (.ref s_SELL), .val (.long p1), .second, .val (.long (p1 + ((((p0 >>> ((2 : Int32) &&& 31)) &&& (3 : Int32)) - (1 : Int32)).toInt64))), .second] [(.long (p1 + ((((p0 >>> ((2 : Int32) &&& 31)) &&& (3 : Int32)) - (1 : Int32)).toInt64)))])) _
    refine XS.lloadN X1.here hx rfl (hb hby d0_22) rfl ?_
    show Steps p.tables e below (T1.setTop (mkF m 23 #[.val (.ref s_SELL), .val (.long p1), .second, .val (.long (p1 + ((((p0 >>> ((2 : Int32) &&& 31)) &&& (3 : Int32)) - (1 : Int32)).toInt64))), .second] [(.long p1), (.long (p1 + ((((p0 >>> ((2 : Int32) &&& 31)) &&& (3 : Int32)) - (1 : Int32)).toInt64)))])) _
    refine XS.lcmp X1.here hx rfl (hb hby d0_23) rfl ?_
    show Steps p.tables e below (T1.setTop (mkF m 24 #[.val (.ref s_SELL), .val (.long p1), .second, .val (.long (p1 + ((((p0 >>> ((2 : Int32) &&& 31)) &&& (3 : Int32)) - (1 : Int32)).toInt64))), .second] [(.int (lcmpW (p1 + ((((p0 >>> ((2 : Int32) &&& 31)) &&& (3 : Int32)) - (1 : Int32)).toInt64)) p1))])) _
    rw [own_lc_eq hc]
    show Steps p.tables e below (T1.setTop (mkF m 24 #[.val (.ref s_SELL), .val (.long p1), .second, .val (.long (p1 + ((((p0 >>> ((2 : Int32) &&& 31)) &&& (3 : Int32)) - (1 : Int32)).toInt64))), .second] [(.int (0 : Int32))])) _
    refine XS.ifNo X1.here hx rfl (hb hby d0_24) rfl (by decide +kernel) ?_
    show Steps p.tables e below (T1.setTop (mkF m 27 #[.val (.ref s_SELL), .val (.long p1), .second, .val (.long (p1 + ((((p0 >>> ((2 : Int32) &&& 31)) &&& (3 : Int32)) - (1 : Int32)).toInt64))), .second] [])) _
    refine XS.iconst X1.here hx rfl (hb hby d0_27) ?_
    show Steps p.tables e below (T1.setTop (mkF m 28 #[.val (.ref s_SELL), .val (.long p1), .second, .val (.long (p1 + ((((p0 >>> ((2 : Int32) &&& 31)) &&& (3 : Int32)) - (1 : Int32)).toInt64))), .second] [(.int (1 : Int32))])) _
    refine XS.goto X1.here hx rfl (pc0 := 28) (pc' := 32) rfl (hb hby d0_28) (by decide) (by decide) ?_
    show Steps p.tables e below (T1.setTop (mkF m 32 #[.val (.ref s_SELL), .val (.long p1), .second, .val (.long (p1 + ((((p0 >>> ((2 : Int32) &&& 31)) &&& (3 : Int32)) - (1 : Int32)).toInt64))), .second] [(.int (1 : Int32))])) _
    exact retN X1 hx (t := .boolean) Bd.returns (by simp) (hb hby d0_32) hr
  · exact ⟨rfl, N0, e1⟩
set_option maxRecDepth 65536 in
set_option maxHeartbeats 40000000 in
theorem r13 (l : Launch) (Z : State) (a0 : Array Value) (hw : ∀ d ∈ tables_1, d.before a0 Z = true) (ws : List Jvm.Cond) (h0 : Heap) (n0 : Nat) (s_SELL : Addr) (s_BUY : Addr) (K : Ctx Z h0 s_SELL s_BUY) (p0 : Int32) (p1 : Int64) (hc : (p1 + ((((p0 >>> ((2 : Int32) &&& 31)) &&& (3 : Int32)) - (1 : Int32)).toInt64)) = p1) :
    MetFree l (⟨"java/lang/Math", "min", "(JJ)J"⟩ : MethodName) (head1 (Jvm.Cond.code (⟨"java/lang/Math", "min", "(JJ)J"⟩ : MethodName) jdk_29_method_70_code 4 (some .long) :: ws) ({ frames := 0, cells := 0, slots := 0, locals := 0 } : Room)) (fun a U => a = #[(.long p1), (.long (p1 + ((((p0 >>> ((2 : Int32) &&& 31)) &&& (3 : Int32)) - (1 : Int32)).toInt64)))] ∧ Z.Warmed39 U.vm ∧ U.heap = h0) (fun _ _ _ _ _ => True) (fun _ U o U' => ∃ v L, o = .returned v ∧ QV (.long p1) h0 n0 v U'.heap L ∧ FrameEnd U o U' L ({ frames := 0, cells := 0, slots := 0, locals := 0 } : Room).cells ({ frames := 0, cells := 0, slots := 0, locals := 0 } : Room).slots) := by
  obtain ⟨S_SELL, S_BUY, ne_BUY_SELL, E_SELL, E_BUY⟩ := id K
  refine MetFree.of_bodySF (Jvm.Free.JP.mathPlain rfl (by decide +kernel)) hisR ?_
  intro p e s m args below meth c s₁ Bd hml0 hP hK
  obtain ⟨rfl, hZ, hh⟩ := hP
  have hx := Bd.exec
  have hby := Bd.bytes
  have hml : c.maxLocals = 4 := hml0
  have hown : s.vm.findClass "java/lang/Math" = some m.cls := findClass_of_methodNamed Bd.named
  have X0 : Stand p l e ({ frames := 0, cells := 0, slots := 0, locals := 0 } : Room) s m #[(.long p1), (.long (p1 + ((((p0 >>> ((2 : Int32) &&& 31)) &&& (3 : Int32)) - (1 : Int32)).toInt64)))] below meth c s₁ [] 0 0 := Stand.of_body Bd
  have e0 : s₁.heap = h0 := by rw [← hh, Bd.state]; rfl
  have N0 := Fr.nil n0
  have pre0 : ∀ t, Steps p.tables e below (s₁.setTop (mkF m 0 #[.val (.long p1), .second, .val (.long (p1 + ((((p0 >>> ((2 : Int32) &&& 31)) &&& (3 : Int32)) - (1 : Int32)).toInt64))), .second] [])) t → Steps p.tables e below (s₁.setTop (entryFrame m #[(.long p1), (.long (p1 + ((((p0 >>> ((2 : Int32) &&& 31)) &&& (3 : Int32)) - (1 : Int32)).toInt64)))] 4)) t := fun t k => castTop (by first | (simp [entryFrame, mkF, argsToLocals, Value.category]; done) | rfl) k
  obtain ⟨fs, hr, hrun, hended, hW, hsame⟩ := X0.leave (v := some (.long p1)) (fun h => by rw [Bd.returns] at h; cases h)
  refine ⟨_, _, pre0 _ ?_, hrun, hended, _, _, rfl, ?_, ⟨_, rfl⟩, hW, hsame.mono (by decide) (by decide)⟩
  · show Steps p.tables e below (s₁.setTop (mkF m 0 #[.val (.long p1), .second, .val (.long (p1 + ((((p0 >>> ((2 : Int32) &&& 31)) &&& (3 : Int32)) - (1 : Int32)).toInt64))), .second] [])) _
    refine XS.lloadN X0.here hx rfl (hb hby d1_0) rfl ?_
    show Steps p.tables e below (s₁.setTop (mkF m 1 #[.val (.long p1), .second, .val (.long (p1 + ((((p0 >>> ((2 : Int32) &&& 31)) &&& (3 : Int32)) - (1 : Int32)).toInt64))), .second] [(.long p1)])) _
    refine XS.lloadN X0.here hx rfl (hb hby d1_1) rfl ?_
    show Steps p.tables e below (s₁.setTop (mkF m 2 #[.val (.long p1), .second, .val (.long (p1 + ((((p0 >>> ((2 : Int32) &&& 31)) &&& (3 : Int32)) - (1 : Int32)).toInt64))), .second] [(.long (p1 + ((((p0 >>> ((2 : Int32) &&& 31)) &&& (3 : Int32)) - (1 : Int32)).toInt64))), (.long p1)])) _
    refine XS.lcmp X0.here hx rfl (hb hby d1_2) rfl ?_
    show Steps p.tables e below (s₁.setTop (mkF m 3 #[.val (.long p1), .second, .val (.long (p1 + ((((p0 >>> ((2 : Int32) &&& 31)) &&& (3 : Int32)) - (1 : Int32)).toInt64))), .second] [(.int (lcmpW p1 (p1 + ((((p0 >>> ((2 : Int32) &&& 31)) &&& (3 : Int32)) - (1 : Int32)).toInt64))))])) _
    rw [own_lr_eq hc]
    show Steps p.tables e below (s₁.setTop (mkF m 3 #[.val (.long p1), .second, .val (.long (p1 + ((((p0 >>> ((2 : Int32) &&& 31)) &&& (3 : Int32)) - (1 : Int32)).toInt64))), .second] [(.int (0 : Int32))])) _
    refine XS.ifNo X0.here hx rfl (hb hby d1_3) rfl (by decide +kernel) ?_
    show Steps p.tables e below (s₁.setTop (mkF m 6 #[.val (.long p1), .second, .val (.long (p1 + ((((p0 >>> ((2 : Int32) &&& 31)) &&& (3 : Int32)) - (1 : Int32)).toInt64))), .second] [])) _
    refine XS.lloadN X0.here hx rfl (hb hby d1_6) rfl ?_
    show Steps p.tables e below (s₁.setTop (mkF m 7 #[.val (.long p1), .second, .val (.long (p1 + ((((p0 >>> ((2 : Int32) &&& 31)) &&& (3 : Int32)) - (1 : Int32)).toInt64))), .second] [(.long p1)])) _
    refine XS.goto X0.here hx rfl (pc0 := 7) (pc' := 11) rfl (hb hby d1_7) (by decide) (by decide) ?_
    show Steps p.tables e below (s₁.setTop (mkF m 11 #[.val (.long p1), .second, .val (.long (p1 + ((((p0 >>> ((2 : Int32) &&& 31)) &&& (3 : Int32)) - (1 : Int32)).toInt64))), .second] [(.long p1)])) _
    exact retOut X0 hx (i := .lreturn) Bd.returns rfl (Or.inr (Or.inl ⟨rfl, rfl, _, rfl⟩)) (hb hby d1_11) hr
  · exact ⟨rfl, N0, e0⟩
set_option maxRecDepth 65536 in
set_option maxHeartbeats 40000000 in
theorem law_k0_2_eq (l : Launch) (Z : State) (a0 : Array Value) (hw : ∀ d ∈ tables_1, d.before a0 Z = true) (ws : List Jvm.Cond) (h0 : Heap) (n0 : Nat) (s_SELL : Addr) (s_BUY : Addr) (K : Ctx Z h0 s_SELL s_BUY) (p0 : Int32) (p1 : Int64) (p2 : Int64) (ha : (p0 &&& (1 : Int32)) = (0 : Int32)) (hb1 : (p0 &&& (2 : Int32)) = (2 : Int32)) (hc : (p1 + ((((p0 >>> ((2 : Int32) &&& 31)) &&& (3 : Int32)) - (1 : Int32)).toInt64)) = p1) :
    MetFree l x (head1 (Jvm.Cond.code x code maxLocals ret :: ws) room_1) (fun a U => a = #[(.int p0), (.long p1), (.long p2)] ∧ Z.Warmed39 U.vm ∧ U.heap = h0) (fun _ _ _ _ _ => True) (fun _ U o U' => ∃ v L, o = .returned v ∧ QV (.int (1 : Int32)) h0 n0 v U'.heap L ∧ FrameEnd U o U' L room_1.cells room_1.slots) := by
  obtain ⟨S_SELL, S_BUY, ne_BUY_SELL, E_SELL, E_BUY⟩ := id K
  refine MetFree.of_bodySF (plainFor_of_name pn3) hisR ?_
  intro p e s m args below meth c s₁ Bd hml0 hP hK
  obtain ⟨rfl, hZ, hh⟩ := hP
  have hx := Bd.exec
  have hby := Bd.bytes
  have hml : c.maxLocals = 12 := hml0
  have hown : s.vm.findClass "com/example/bookfence/bookfence/engine/SideAllowsPinLaw" = some m.cls := findClass_of_methodNamed Bd.named
  have X0 : Stand p l e room_1 s m #[(.int p0), (.long p1), (.long p2)] below meth c s₁ [] 0 0 := Stand.of_body Bd
  have e0 : s₁.heap = h0 := by rw [← hh, Bd.state]; rfl
  have N0 := Fr.nil n0
  have pre0 : ∀ t, Steps p.tables e below (s₁.setTop (mkF m 0 #[.val (.int p0), .val (.long p1), .second, .val (.long p2), .second, .unset, .unset, .unset, .unset, .unset, .unset, .unset] [])) t → Steps p.tables e below (s₁.setTop (entryFrame m #[(.int p0), (.long p1), (.long p2)] maxLocals)) t := fun t k => castTop (by first | (simp [entryFrame, mkF, argsToLocals, Value.category, maxLocals]; done) | rfl) k
  obtain ⟨T1, X1, e1, st1⟩ := getS X0 hx hZ hown (host := "") (hw _ (List.mem_of_getElem? (i := 0) rfl)) Via.refl e0 S_SELL (g := (mkF m 12 #[.val (.int p0), .val (.long p1), .second, .val (.long p2), .second, .unset, .unset, .unset, .unset, .unset, .unset, .unset] [])) rfl (hb hby at_12)
  obtain ⟨cq2, kq2, q2a, q2b, q2c⟩ := isOf hZ e1 E_SELL
  obtain ⟨_, _, ⟨T2, L2, k2, n2⟩, -, X2, ⟨Lc2, hQ2, l2, y2, z2⟩, st2⟩ := X1.virtualBack hx (y := (⟨"com/example/bookfence/bookfence/engine/Side", "allows", "(JJ)Z"⟩ : MethodName)) (z := (⟨"com/example/bookfence/bookfence/engine/Side", "allows", "(JJ)Z"⟩ : MethodName)) hown (mvT hZ (hw _ (List.mem_of_getElem? (i := 3) rfl))) (mvT hZ (hw _ (List.mem_of_getElem? (i := 4) rfl))) (notFace_of_selects (args := #[]) (mvT hZ (hw _ (List.mem_of_getElem? (i := 6) rfl)))) (mvT hZ (hw _ (List.mem_of_getElem? (i := 6) rfl))) (mvT hZ (hw _ (List.mem_of_getElem? (i := 5) rfl))) (by decide) (backOf (W := 0) (r12 l Z a0 hw [] h0 n0 s_SELL s_BUY K p0 p1 hc) hZ (hw _ (List.mem_of_getElem? (i := 7) rfl)) (hw _ (List.mem_of_getElem? (i := 1) rfl)) (by decide) (by decide)) q2a q2c (g := (mkF m 48 #[.val (.int p0), .val (.long p1), .second, .val (.long p2), .second, .val (.ref s_SELL), .val (.long ((((p0 >>> ((2 : Int32) &&& 31)) &&& (3 : Int32)) - (1 : Int32)).toInt64)), .second, .val (.long (p1 + ((((p0 >>> ((2 : Int32) &&& 31)) &&& (3 : Int32)) - (1 : Int32)).toInt64))), .second, .unset, .unset] [(.long (p1 + ((((p0 >>> ((2 : Int32) &&& 31)) &&& (3 : Int32)) - (1 : Int32)).toInt64))), (.long p1), (.ref s_SELL)])) rfl (by rw [hml]; rfl) (Steps.refl _) (argsL := [(.long p1), (.long (p1 + ((((p0 >>> ((2 : Int32) &&& 31)) &&& (3 : Int32)) - (1 : Int32)).toInt64)))]) (rest := []) (lenOf pd0 rfl) rfl (by show 2 * 0 + _ ≤ _; exact Nat.le_of_eq rfl) (hb hby at_48) (fun _ _ => ⟨rfl, e1, (by decide : 0 + 0 ≤ _), (by decide : 0 + 0 ≤ _)⟩)
  dsimp only [Pt.U, Pt.locs, Pt.cells, Pt.slots] at X2 l2 y2 z2 st2 hQ2
  subst l2 y2 z2
  obtain ⟨rfl, N2q, e2⟩ := hQ2
  have N2 := Fr.app N0 N2q
  obtain ⟨T3, X3, e3, st3⟩ := getS X2 hx hZ hown (host := "") (hw _ (List.mem_of_getElem? (i := 10) rfl)) Via.refl e2 S_BUY (g := (mkF m 55 #[.val (.int p0), .val (.long p1), .second, .val (.long p2), .second, .val (.ref s_SELL), .val (.long ((((p0 >>> ((2 : Int32) &&& 31)) &&& (3 : Int32)) - (1 : Int32)).toInt64)), .second, .val (.long (p1 + ((((p0 >>> ((2 : Int32) &&& 31)) &&& (3 : Int32)) - (1 : Int32)).toInt64))), .second, .val (.int (1 : Int32)), .unset] [(.ref s_SELL)])) rfl (hb hby at_55)
  obtain ⟨_, _, ⟨T4, L4, k4, n4⟩, -, X4, ⟨Lc4, hQ4, l4, y4, z4⟩, st4⟩ := Jvm.LawKit.callS X3 hx (y := (⟨"java/lang/Math", "min", "(JJ)J"⟩ : MethodName)) hown (mvT hZ (hw _ (List.mem_of_getElem? (i := 11) rfl))) (mvT hZ (hw _ (List.mem_of_getElem? (i := 12) rfl))) (mvT hZ (hw _ (List.mem_of_getElem? (i := 13) rfl))) (mvT hZ (hw _ (List.mem_of_getElem? (i := 14) rfl))) (by decide) (backOf (W := 0) (r13 l Z a0 hw [] h0 n0 s_SELL s_BUY K p0 p1 hc) hZ (hw _ (List.mem_of_getElem? (i := 14) rfl)) (hw _ (List.mem_of_getElem? (i := 13) rfl)) (by decide) (by decide)) (g := (mkF m 85 #[.val (.int p0), .val (.long p1), .second, .val (.long p2), .second, .val (.ref s_SELL), .val (.long ((((p0 >>> ((2 : Int32) &&& 31)) &&& (3 : Int32)) - (1 : Int32)).toInt64)), .second, .val (.long (p1 + ((((p0 >>> ((2 : Int32) &&& 31)) &&& (3 : Int32)) - (1 : Int32)).toInt64))), .second, .val (.int (1 : Int32)), .unset] [(.long (p1 + ((((p0 >>> ((2 : Int32) &&& 31)) &&& (3 : Int32)) - (1 : Int32)).toInt64))), (.long p1)])) rfl (by rw [hml]; rfl) (argsL := [(.long p1), (.long (p1 + ((((p0 >>> ((2 : Int32) &&& 31)) &&& (3 : Int32)) - (1 : Int32)).toInt64)))]) (rest := []) (lenOf pd1 rfl) rfl (by show 2 * 0 + _ ≤ _; exact Nat.le_of_eq rfl) (hb hby at_85) (fun _ _ => ⟨rfl, e3, (by decide : 0 + 0 ≤ _), (by decide : 0 + 0 ≤ _)⟩)
  dsimp only [Pt.U, Pt.locs, Pt.cells, Pt.slots] at X4 l4 y4 z4 st4 hQ4
  subst l4 y4 z4
  obtain ⟨rfl, N4q, e4⟩ := hQ4
  have N4 := Fr.app N2 N4q
  obtain ⟨fs, hr, hrun, hended, hW, hsame⟩ := X4.leave (v := some (.int (1 : Int32))) (fun h => by rw [Bd.returns] at h; cases h)
  refine ⟨_, _, pre0 _ ?_, hrun, hended, _, _, rfl, ?_, ⟨_, rfl⟩, hW, hsame.mono (by decide) (by decide)⟩
  · show Steps p.tables e below (s₁.setTop (mkF m 0 #[.val (.int p0), .val (.long p1), .second, .val (.long p2), .second, .unset, .unset, .unset, .unset, .unset, .unset, .unset] [])) _
    refine XS.iloadN X0.here hx rfl (hb hby at_0) rfl ?_
    show Steps p.tables e below (s₁.setTop (mkF m 1 #[.val (.int p0), .val (.long p1), .second, .val (.long p2), .second, .unset, .unset, .unset, .unset, .unset, .unset, .unset] [(.int p0)])) _
    refine XS.iconst X0.here hx rfl (hb hby at_1) ?_
    show Steps p.tables e below (s₁.setTop (mkF m 2 #[.val (.int p0), .val (.long p1), .second, .val (.long p2), .second, .unset, .unset, .unset, .unset, .unset, .unset, .unset] [(.int (1 : Int32)), (.int p0)])) _
    refine XS.iand X0.here hx rfl (hb hby at_2) rfl ?_
    show Steps p.tables e below (s₁.setTop (mkF m 3 #[.val (.int p0), .val (.long p1), .second, .val (.long p2), .second, .unset, .unset, .unset, .unset, .unset, .unset, .unset] [(.int (p0 &&& (1 : Int32)))])) _
    rw [ha]
    show Steps p.tables e below (s₁.setTop (mkF m 3 #[.val (.int p0), .val (.long p1), .second, .val (.long p2), .second, .unset, .unset, .unset, .unset, .unset, .unset, .unset] [(.int (0 : Int32))])) _
    refine XS.ifYes X0.here hx rfl (pc0 := 3) (pc' := 12) rfl (hb hby at_3) rfl (by decide +kernel) (by decide) (by decide) ?_
    show Steps p.tables e below (s₁.setTop (mkF m 12 #[.val (.int p0), .val (.long p1), .second, .val (.long p2), .second, .unset, .unset, .unset, .unset, .unset, .unset, .unset] [])) _
    refine st1 _ ?_
    show Steps p.tables e below (T1.setTop (mkF m 15 #[.val (.int p0), .val (.long p1), .second, .val (.long p2), .second, .unset, .unset, .unset, .unset, .unset, .unset, .unset] [(.ref s_SELL)])) _
    refine XS.astore X1.here hx rfl (hb hby at_15) rfl rfl (l' := #[.val (.int p0), .val (.long p1), .second, .val (.long p2), .second, .val (.ref s_SELL), .unset, .unset, .unset, .unset, .unset, .unset]) rfl ?_
    show Steps p.tables e below (T1.setTop (mkF m 17 #[.val (.int p0), .val (.long p1), .second, .val (.long p2), .second, .val (.ref s_SELL), .unset, .unset, .unset, .unset, .unset, .unset] [])) _
    refine XS.iloadN X1.here hx rfl (hb hby at_17) rfl ?_
    show Steps p.tables e below (T1.setTop (mkF m 18 #[.val (.int p0), .val (.long p1), .second, .val (.long p2), .second, .val (.ref s_SELL), .unset, .unset, .unset, .unset, .unset, .unset] [(.int p0)])) _
    refine XS.iconst X1.here hx rfl (hb hby at_18) ?_
    show Steps p.tables e below (T1.setTop (mkF m 19 #[.val (.int p0), .val (.long p1), .second, .val (.long p2), .second, .val (.ref s_SELL), .unset, .unset, .unset, .unset, .unset, .unset] [(.int (2 : Int32)), (.int p0)])) _
    refine XS.ishr X1.here hx rfl (hb hby at_19) rfl ?_
    show Steps p.tables e below (T1.setTop (mkF m 20 #[.val (.int p0), .val (.long p1), .second, .val (.long p2), .second, .val (.ref s_SELL), .unset, .unset, .unset, .unset, .unset, .unset] [(.int (p0 >>> ((2 : Int32) &&& 31)))])) _
    refine XS.iconst X1.here hx rfl (hb hby at_20) ?_
    show Steps p.tables e below (T1.setTop (mkF m 21 #[.val (.int p0), .val (.long p1), .second, .val (.long p2), .second, .val (.ref s_SELL), .unset, .unset, .unset, .unset, .unset, .unset] [(.int (3 : Int32)), (.int (p0 >>> ((2 : Int32) &&& 31)))])) _
    refine XS.iand X1.here hx rfl (hb hby at_21) rfl ?_
    show Steps p.tables e below (T1.setTop (mkF m 22 #[.val (.int p0), .val (.long p1), .second, .val (.long p2), .second, .val (.ref s_SELL), .unset, .unset, .unset, .unset, .unset, .unset] [(.int ((p0 >>> ((2 : Int32) &&& 31)) &&& (3 : Int32)))])) _
    refine XS.iconst X1.here hx rfl (hb hby at_22) ?_
    show Steps p.tables e below (T1.setTop (mkF m 23 #[.val (.int p0), .val (.long p1), .second, .val (.long p2), .second, .val (.ref s_SELL), .unset, .unset, .unset, .unset, .unset, .unset] [(.int (1 : Int32)), (.int ((p0 >>> ((2 : Int32) &&& 31)) &&& (3 : Int32)))])) _
    refine XS.isub X1.here hx rfl (hb hby at_23) rfl ?_
    show Steps p.tables e below (T1.setTop (mkF m 24 #[.val (.int p0), .val (.long p1), .second, .val (.long p2), .second, .val (.ref s_SELL), .unset, .unset, .unset, .unset, .unset, .unset] [(.int (((p0 >>> ((2 : Int32) &&& 31)) &&& (3 : Int32)) - (1 : Int32)))])) _
    refine XS.i2l X1.here hx rfl (hb hby at_24) rfl ?_
    show Steps p.tables e below (T1.setTop (mkF m 25 #[.val (.int p0), .val (.long p1), .second, .val (.long p2), .second, .val (.ref s_SELL), .unset, .unset, .unset, .unset, .unset, .unset] [(.long ((((p0 >>> ((2 : Int32) &&& 31)) &&& (3 : Int32)) - (1 : Int32)).toInt64))])) _
    refine XS.lstore X1.here hx rfl (hb hby at_25) rfl (l' := #[.val (.int p0), .val (.long p1), .second, .val (.long p2), .second, .val (.ref s_SELL), .val (.long ((((p0 >>> ((2 : Int32) &&& 31)) &&& (3 : Int32)) - (1 : Int32)).toInt64)), .second, .unset, .unset, .unset, .unset]) rfl ?_
    show Steps p.tables e below (T1.setTop (mkF m 27 #[.val (.int p0), .val (.long p1), .second, .val (.long p2), .second, .val (.ref s_SELL), .val (.long ((((p0 >>> ((2 : Int32) &&& 31)) &&& (3 : Int32)) - (1 : Int32)).toInt64)), .second, .unset, .unset, .unset, .unset] [])) _
    refine XS.iloadN X1.here hx rfl (hb hby at_27) rfl ?_
    show Steps p.tables e below (T1.setTop (mkF m 28 #[.val (.int p0), .val (.long p1), .second, .val (.long p2), .second, .val (.ref s_SELL), .val (.long ((((p0 >>> ((2 : Int32) &&& 31)) &&& (3 : Int32)) - (1 : Int32)).toInt64)), .second, .unset, .unset, .unset, .unset] [(.int p0)])) _
    refine XS.iconst X1.here hx rfl (hb hby at_28) ?_
    show Steps p.tables e below (T1.setTop (mkF m 29 #[.val (.int p0), .val (.long p1), .second, .val (.long p2), .second, .val (.ref s_SELL), .val (.long ((((p0 >>> ((2 : Int32) &&& 31)) &&& (3 : Int32)) - (1 : Int32)).toInt64)), .second, .unset, .unset, .unset, .unset] [(.int (2 : Int32)), (.int p0)])) _
    refine XS.iand X1.here hx rfl (hb hby at_29) rfl ?_
    show Steps p.tables e below (T1.setTop (mkF m 30 #[.val (.int p0), .val (.long p1), .second, .val (.long p2), .second, .val (.ref s_SELL), .val (.long ((((p0 >>> ((2 : Int32) &&& 31)) &&& (3 : Int32)) - (1 : Int32)).toInt64)), .second, .unset, .unset, .unset, .unset] [(.int (p0 &&& (2 : Int32)))])) _
    rw [hb1]
    show Steps p.tables e below (T1.setTop (mkF m 30 #[.val (.int p0), .val (.long p1), .second, .val (.long p2), .second, .val (.ref s_SELL), .val (.long ((((p0 >>> ((2 : Int32) &&& 31)) &&& (3 : Int32)) - (1 : Int32)).toInt64)), .second, .unset, .unset, .unset, .unset] [(.int (2 : Int32))])) _
    refine XS.ifNo X1.here hx rfl (hb hby at_30) rfl (by decide +kernel) ?_
    show Steps p.tables e below (T1.setTop (mkF m 33 #[.val (.int p0), .val (.long p1), .second, .val (.long p2), .second, .val (.ref s_SELL), .val (.long ((((p0 >>> ((2 : Int32) &&& 31)) &&& (3 : Int32)) - (1 : Int32)).toInt64)), .second, .unset, .unset, .unset, .unset] [])) _
    refine XS.lloadN X1.here hx rfl (hb hby at_33) rfl ?_
    show Steps p.tables e below (T1.setTop (mkF m 34 #[.val (.int p0), .val (.long p1), .second, .val (.long p2), .second, .val (.ref s_SELL), .val (.long ((((p0 >>> ((2 : Int32) &&& 31)) &&& (3 : Int32)) - (1 : Int32)).toInt64)), .second, .unset, .unset, .unset, .unset] [(.long p1)])) _
    refine XS.lload X1.here hx rfl (hb hby at_34) rfl ?_
    show Steps p.tables e below (T1.setTop (mkF m 36 #[.val (.int p0), .val (.long p1), .second, .val (.long p2), .second, .val (.ref s_SELL), .val (.long ((((p0 >>> ((2 : Int32) &&& 31)) &&& (3 : Int32)) - (1 : Int32)).toInt64)), .second, .unset, .unset, .unset, .unset] [(.long ((((p0 >>> ((2 : Int32) &&& 31)) &&& (3 : Int32)) - (1 : Int32)).toInt64)), (.long p1)])) _
    refine XS.ladd X1.here hx rfl (hb hby at_36) rfl ?_
    show Steps p.tables e below (T1.setTop (mkF m 37 #[.val (.int p0), .val (.long p1), .second, .val (.long p2), .second, .val (.ref s_SELL), .val (.long ((((p0 >>> ((2 : Int32) &&& 31)) &&& (3 : Int32)) - (1 : Int32)).toInt64)), .second, .unset, .unset, .unset, .unset] [(.long (p1 + ((((p0 >>> ((2 : Int32) &&& 31)) &&& (3 : Int32)) - (1 : Int32)).toInt64)))])) _
    refine XS.goto X1.here hx rfl (pc0 := 37) (pc' := 41) rfl (hb hby at_37) (by decide) (by decide) ?_
    show Steps p.tables e below (T1.setTop (mkF m 41 #[.val (.int p0), .val (.long p1), .second, .val (.long p2), .second, .val (.ref s_SELL), .val (.long ((((p0 >>> ((2 : Int32) &&& 31)) &&& (3 : Int32)) - (1 : Int32)).toInt64)), .second, .unset, .unset, .unset, .unset] [(.long (p1 + ((((p0 >>> ((2 : Int32) &&& 31)) &&& (3 : Int32)) - (1 : Int32)).toInt64)))])) _
    refine XS.lstore X1.here hx rfl (hb hby at_41) rfl (l' := #[.val (.int p0), .val (.long p1), .second, .val (.long p2), .second, .val (.ref s_SELL), .val (.long ((((p0 >>> ((2 : Int32) &&& 31)) &&& (3 : Int32)) - (1 : Int32)).toInt64)), .second, .val (.long (p1 + ((((p0 >>> ((2 : Int32) &&& 31)) &&& (3 : Int32)) - (1 : Int32)).toInt64))), .second, .unset, .unset]) rfl ?_
    show Steps p.tables e below (T1.setTop (mkF m 43 #[.val (.int p0), .val (.long p1), .second, .val (.long p2), .second, .val (.ref s_SELL), .val (.long ((((p0 >>> ((2 : Int32) &&& 31)) &&& (3 : Int32)) - (1 : Int32)).toInt64)), .second, .val (.long (p1 + ((((p0 >>> ((2 : Int32) &&& 31)) &&& (3 : Int32)) - (1 : Int32)).toInt64))), .second, .unset, .unset] [])) _
    refine XS.aload X1.here hx rfl (hb hby at_43) rfl rfl ?_
    show Steps p.tables e below (T1.setTop (mkF m 45 #[.val (.int p0), .val (.long p1), .second, .val (.long p2), .second, .val (.ref s_SELL), .val (.long ((((p0 >>> ((2 : Int32) &&& 31)) &&& (3 : Int32)) - (1 : Int32)).toInt64)), .second, .val (.long (p1 + ((((p0 >>> ((2 : Int32) &&& 31)) &&& (3 : Int32)) - (1 : Int32)).toInt64))), .second, .unset, .unset] [(.ref s_SELL)])) _
    refine XS.lloadN X1.here hx rfl (hb hby at_45) rfl ?_
    show Steps p.tables e below (T1.setTop (mkF m 46 #[.val (.int p0), .val (.long p1), .second, .val (.long p2), .second, .val (.ref s_SELL), .val (.long ((((p0 >>> ((2 : Int32) &&& 31)) &&& (3 : Int32)) - (1 : Int32)).toInt64)), .second, .val (.long (p1 + ((((p0 >>> ((2 : Int32) &&& 31)) &&& (3 : Int32)) - (1 : Int32)).toInt64))), .second, .unset, .unset] [(.long p1), (.ref s_SELL)])) _
    refine XS.lload X1.here hx rfl (hb hby at_46) rfl ?_
    show Steps p.tables e below (T1.setTop (mkF m 48 #[.val (.int p0), .val (.long p1), .second, .val (.long p2), .second, .val (.ref s_SELL), .val (.long ((((p0 >>> ((2 : Int32) &&& 31)) &&& (3 : Int32)) - (1 : Int32)).toInt64)), .second, .val (.long (p1 + ((((p0 >>> ((2 : Int32) &&& 31)) &&& (3 : Int32)) - (1 : Int32)).toInt64))), .second, .unset, .unset] [(.long (p1 + ((((p0 >>> ((2 : Int32) &&& 31)) &&& (3 : Int32)) - (1 : Int32)).toInt64))), (.long p1), (.ref s_SELL)])) _
    refine st2.trans ?_
    show Steps p.tables e below (T2.setTop (mkF m 51 #[.val (.int p0), .val (.long p1), .second, .val (.long p2), .second, .val (.ref s_SELL), .val (.long ((((p0 >>> ((2 : Int32) &&& 31)) &&& (3 : Int32)) - (1 : Int32)).toInt64)), .second, .val (.long (p1 + ((((p0 >>> ((2 : Int32) &&& 31)) &&& (3 : Int32)) - (1 : Int32)).toInt64))), .second, .unset, .unset] [(.int (1 : Int32))])) _
    refine XS.istore X2.here hx rfl (hb hby at_51) rfl (l' := #[.val (.int p0), .val (.long p1), .second, .val (.long p2), .second, .val (.ref s_SELL), .val (.long ((((p0 >>> ((2 : Int32) &&& 31)) &&& (3 : Int32)) - (1 : Int32)).toInt64)), .second, .val (.long (p1 + ((((p0 >>> ((2 : Int32) &&& 31)) &&& (3 : Int32)) - (1 : Int32)).toInt64))), .second, .val (.int (1 : Int32)), .unset]) rfl ?_
    show Steps p.tables e below (T2.setTop (mkF m 53 #[.val (.int p0), .val (.long p1), .second, .val (.long p2), .second, .val (.ref s_SELL), .val (.long ((((p0 >>> ((2 : Int32) &&& 31)) &&& (3 : Int32)) - (1 : Int32)).toInt64)), .second, .val (.long (p1 + ((((p0 >>> ((2 : Int32) &&& 31)) &&& (3 : Int32)) - (1 : Int32)).toInt64))), .second, .val (.int (1 : Int32)), .unset] [])) _
    refine XS.aload X2.here hx rfl (hb hby at_53) rfl rfl ?_
    show Steps p.tables e below (T2.setTop (mkF m 55 #[.val (.int p0), .val (.long p1), .second, .val (.long p2), .second, .val (.ref s_SELL), .val (.long ((((p0 >>> ((2 : Int32) &&& 31)) &&& (3 : Int32)) - (1 : Int32)).toInt64)), .second, .val (.long (p1 + ((((p0 >>> ((2 : Int32) &&& 31)) &&& (3 : Int32)) - (1 : Int32)).toInt64))), .second, .val (.int (1 : Int32)), .unset] [(.ref s_SELL)])) _
    refine st3 _ ?_
    show Steps p.tables e below (T3.setTop (mkF m 58 #[.val (.int p0), .val (.long p1), .second, .val (.long p2), .second, .val (.ref s_SELL), .val (.long ((((p0 >>> ((2 : Int32) &&& 31)) &&& (3 : Int32)) - (1 : Int32)).toInt64)), .second, .val (.long (p1 + ((((p0 >>> ((2 : Int32) &&& 31)) &&& (3 : Int32)) - (1 : Int32)).toInt64))), .second, .val (.int (1 : Int32)), .unset] [(.ref s_BUY), (.ref s_SELL)])) _
    refine Jvm.RoadKit.acmp (g := (mkF m 58 #[.val (.int p0), .val (.long p1), .second, .val (.long p2), .second, .val (.ref s_SELL), .val (.long ((((p0 >>> ((2 : Int32) &&& 31)) &&& (3 : Int32)) - (1 : Int32)).toInt64)), .second, .val (.long (p1 + ((((p0 >>> ((2 : Int32) &&& 31)) &&& (3 : Int32)) - (1 : Int32)).toInt64))), .second, .val (.int (1 : Int32)), .unset] [(.ref s_BUY), (.ref s_SELL)])) X3 hx rfl rfl rfl (pc0 := 58) (pc' := 82) (same := false) rfl (hb hby at_58) rfl (decide_eq_false fun q => (Ne.symm ne_BUY_SELL) (Value.ref.inj q)) (by decide) (by decide) ?_
    show Steps p.tables e below (T3.setTop (mkF m 82 #[.val (.int p0), .val (.long p1), .second, .val (.long p2), .second, .val (.ref s_SELL), .val (.long ((((p0 >>> ((2 : Int32) &&& 31)) &&& (3 : Int32)) - (1 : Int32)).toInt64)), .second, .val (.long (p1 + ((((p0 >>> ((2 : Int32) &&& 31)) &&& (3 : Int32)) - (1 : Int32)).toInt64))), .second, .val (.int (1 : Int32)), .unset] [])) _
    refine XS.lloadN X3.here hx rfl (hb hby at_82) rfl ?_
    show Steps p.tables e below (T3.setTop (mkF m 83 #[.val (.int p0), .val (.long p1), .second, .val (.long p2), .second, .val (.ref s_SELL), .val (.long ((((p0 >>> ((2 : Int32) &&& 31)) &&& (3 : Int32)) - (1 : Int32)).toInt64)), .second, .val (.long (p1 + ((((p0 >>> ((2 : Int32) &&& 31)) &&& (3 : Int32)) - (1 : Int32)).toInt64))), .second, .val (.int (1 : Int32)), .unset] [(.long p1)])) _
    refine XS.lload X3.here hx rfl (hb hby at_83) rfl ?_
    show Steps p.tables e below (T3.setTop (mkF m 85 #[.val (.int p0), .val (.long p1), .second, .val (.long p2), .second, .val (.ref s_SELL), .val (.long ((((p0 >>> ((2 : Int32) &&& 31)) &&& (3 : Int32)) - (1 : Int32)).toInt64)), .second, .val (.long (p1 + ((((p0 >>> ((2 : Int32) &&& 31)) &&& (3 : Int32)) - (1 : Int32)).toInt64))), .second, .val (.int (1 : Int32)), .unset] [(.long (p1 + ((((p0 >>> ((2 : Int32) &&& 31)) &&& (3 : Int32)) - (1 : Int32)).toInt64))), (.long p1)])) _
    refine st4 _ ?_
    show Steps p.tables e below (T4.setTop (mkF m 88 #[.val (.int p0), .val (.long p1), .second, .val (.long p2), .second, .val (.ref s_SELL), .val (.long ((((p0 >>> ((2 : Int32) &&& 31)) &&& (3 : Int32)) - (1 : Int32)).toInt64)), .second, .val (.long (p1 + ((((p0 >>> ((2 : Int32) &&& 31)) &&& (3 : Int32)) - (1 : Int32)).toInt64))), .second, .val (.int (1 : Int32)), .unset] [(.long p1)])) _
    refine XS.lloadN X4.here hx rfl (hb hby at_88) rfl ?_
    show Steps p.tables e below (T4.setTop (mkF m 89 #[.val (.int p0), .val (.long p1), .second, .val (.long p2), .second, .val (.ref s_SELL), .val (.long ((((p0 >>> ((2 : Int32) &&& 31)) &&& (3 : Int32)) - (1 : Int32)).toInt64)), .second, .val (.long (p1 + ((((p0 >>> ((2 : Int32) &&& 31)) &&& (3 : Int32)) - (1 : Int32)).toInt64))), .second, .val (.int (1 : Int32)), .unset] [(.long p1), (.long p1)])) _
    refine XS.lcmp X4.here hx rfl (hb hby at_89) rfl ?_
    show Steps p.tables e below (T4.setTop (mkF m 90 #[.val (.int p0), .val (.long p1), .second, .val (.long p2), .second, .val (.ref s_SELL), .val (.long ((((p0 >>> ((2 : Int32) &&& 31)) &&& (3 : Int32)) - (1 : Int32)).toInt64)), .second, .val (.long (p1 + ((((p0 >>> ((2 : Int32) &&& 31)) &&& (3 : Int32)) - (1 : Int32)).toInt64))), .second, .val (.int (1 : Int32)), .unset] [(.int (lcmpW p1 p1))])) _
    rw [own_lc_eq (rfl : p1 = p1)]
    show Steps p.tables e below (T4.setTop (mkF m 90 #[.val (.int p0), .val (.long p1), .second, .val (.long p2), .second, .val (.ref s_SELL), .val (.long ((((p0 >>> ((2 : Int32) &&& 31)) &&& (3 : Int32)) - (1 : Int32)).toInt64)), .second, .val (.long (p1 + ((((p0 >>> ((2 : Int32) &&& 31)) &&& (3 : Int32)) - (1 : Int32)).toInt64))), .second, .val (.int (1 : Int32)), .unset] [(.int (0 : Int32))])) _
    refine XS.ifNo X4.here hx rfl (hb hby at_90) rfl (by decide +kernel) ?_
    show Steps p.tables e below (T4.setTop (mkF m 93 #[.val (.int p0), .val (.long p1), .second, .val (.long p2), .second, .val (.ref s_SELL), .val (.long ((((p0 >>> ((2 : Int32) &&& 31)) &&& (3 : Int32)) - (1 : Int32)).toInt64)), .second, .val (.long (p1 + ((((p0 >>> ((2 : Int32) &&& 31)) &&& (3 : Int32)) - (1 : Int32)).toInt64))), .second, .val (.int (1 : Int32)), .unset] [])) _
    refine XS.iconst X4.here hx rfl (hb hby at_93) ?_
    show Steps p.tables e below (T4.setTop (mkF m 94 #[.val (.int p0), .val (.long p1), .second, .val (.long p2), .second, .val (.ref s_SELL), .val (.long ((((p0 >>> ((2 : Int32) &&& 31)) &&& (3 : Int32)) - (1 : Int32)).toInt64)), .second, .val (.long (p1 + ((((p0 >>> ((2 : Int32) &&& 31)) &&& (3 : Int32)) - (1 : Int32)).toInt64))), .second, .val (.int (1 : Int32)), .unset] [(.int (1 : Int32))])) _
    refine XS.goto X4.here hx rfl (pc0 := 94) (pc' := 98) rfl (hb hby at_94) (by decide) (by decide) ?_
    show Steps p.tables e below (T4.setTop (mkF m 98 #[.val (.int p0), .val (.long p1), .second, .val (.long p2), .second, .val (.ref s_SELL), .val (.long ((((p0 >>> ((2 : Int32) &&& 31)) &&& (3 : Int32)) - (1 : Int32)).toInt64)), .second, .val (.long (p1 + ((((p0 >>> ((2 : Int32) &&& 31)) &&& (3 : Int32)) - (1 : Int32)).toInt64))), .second, .val (.int (1 : Int32)), .unset] [(.int (1 : Int32))])) _
    refine XS.istore X4.here hx rfl (hb hby at_98) rfl (l' := #[.val (.int p0), .val (.long p1), .second, .val (.long p2), .second, .val (.ref s_SELL), .val (.long ((((p0 >>> ((2 : Int32) &&& 31)) &&& (3 : Int32)) - (1 : Int32)).toInt64)), .second, .val (.long (p1 + ((((p0 >>> ((2 : Int32) &&& 31)) &&& (3 : Int32)) - (1 : Int32)).toInt64))), .second, .val (.int (1 : Int32)), .val (.int (1 : Int32))]) rfl ?_
    show Steps p.tables e below (T4.setTop (mkF m 100 #[.val (.int p0), .val (.long p1), .second, .val (.long p2), .second, .val (.ref s_SELL), .val (.long ((((p0 >>> ((2 : Int32) &&& 31)) &&& (3 : Int32)) - (1 : Int32)).toInt64)), .second, .val (.long (p1 + ((((p0 >>> ((2 : Int32) &&& 31)) &&& (3 : Int32)) - (1 : Int32)).toInt64))), .second, .val (.int (1 : Int32)), .val (.int (1 : Int32))] [])) _
    refine XS.iload X4.here hx rfl (hb hby at_100) rfl ?_
    show Steps p.tables e below (T4.setTop (mkF m 102 #[.val (.int p0), .val (.long p1), .second, .val (.long p2), .second, .val (.ref s_SELL), .val (.long ((((p0 >>> ((2 : Int32) &&& 31)) &&& (3 : Int32)) - (1 : Int32)).toInt64)), .second, .val (.long (p1 + ((((p0 >>> ((2 : Int32) &&& 31)) &&& (3 : Int32)) - (1 : Int32)).toInt64))), .second, .val (.int (1 : Int32)), .val (.int (1 : Int32))] [(.int (1 : Int32))])) _
    refine XS.iload X4.here hx rfl (hb hby at_102) rfl ?_
    show Steps p.tables e below (T4.setTop (mkF m 104 #[.val (.int p0), .val (.long p1), .second, .val (.long p2), .second, .val (.ref s_SELL), .val (.long ((((p0 >>> ((2 : Int32) &&& 31)) &&& (3 : Int32)) - (1 : Int32)).toInt64)), .second, .val (.long (p1 + ((((p0 >>> ((2 : Int32) &&& 31)) &&& (3 : Int32)) - (1 : Int32)).toInt64))), .second, .val (.int (1 : Int32)), .val (.int (1 : Int32))] [(.int (1 : Int32)), (.int (1 : Int32))])) _
    refine XS.icmpNo X4.here hx rfl (hb hby at_104) rfl (by decide +kernel) ?_
    show Steps p.tables e below (T4.setTop (mkF m 107 #[.val (.int p0), .val (.long p1), .second, .val (.long p2), .second, .val (.ref s_SELL), .val (.long ((((p0 >>> ((2 : Int32) &&& 31)) &&& (3 : Int32)) - (1 : Int32)).toInt64)), .second, .val (.long (p1 + ((((p0 >>> ((2 : Int32) &&& 31)) &&& (3 : Int32)) - (1 : Int32)).toInt64))), .second, .val (.int (1 : Int32)), .val (.int (1 : Int32))] [])) _
    refine XS.iconst X4.here hx rfl (hb hby at_107) ?_
    show Steps p.tables e below (T4.setTop (mkF m 108 #[.val (.int p0), .val (.long p1), .second, .val (.long p2), .second, .val (.ref s_SELL), .val (.long ((((p0 >>> ((2 : Int32) &&& 31)) &&& (3 : Int32)) - (1 : Int32)).toInt64)), .second, .val (.long (p1 + ((((p0 >>> ((2 : Int32) &&& 31)) &&& (3 : Int32)) - (1 : Int32)).toInt64))), .second, .val (.int (1 : Int32)), .val (.int (1 : Int32))] [(.int (1 : Int32))])) _
    refine XS.goto X4.here hx rfl (pc0 := 108) (pc' := 112) rfl (hb hby at_108) (by decide) (by decide) ?_
    show Steps p.tables e below (T4.setTop (mkF m 112 #[.val (.int p0), .val (.long p1), .second, .val (.long p2), .second, .val (.ref s_SELL), .val (.long ((((p0 >>> ((2 : Int32) &&& 31)) &&& (3 : Int32)) - (1 : Int32)).toInt64)), .second, .val (.long (p1 + ((((p0 >>> ((2 : Int32) &&& 31)) &&& (3 : Int32)) - (1 : Int32)).toInt64))), .second, .val (.int (1 : Int32)), .val (.int (1 : Int32))] [(.int (1 : Int32))])) _
    exact retN X4 hx (t := .boolean) Bd.returns (by simp) (hb hby at_112) hr
  · exact ⟨rfl, N4, e4⟩
set_option maxRecDepth 65536 in
set_option maxHeartbeats 40000000 in
theorem r15 (l : Launch) (Z : State) (a0 : Array Value) (hw : ∀ d ∈ tables_1, d.before a0 Z = true) (ws : List Jvm.Cond) (h0 : Heap) (n0 : Nat) (s_SELL : Addr) (s_BUY : Addr) (K : Ctx Z h0 s_SELL s_BUY) (p0 : Int32) (p1 : Int64) (hc : p1 < (p1 + ((((p0 >>> ((2 : Int32) &&& 31)) &&& (3 : Int32)) - (1 : Int32)).toInt64))) :
    MetFree l (⟨"com/example/bookfence/bookfence/engine/Side", "allows", "(JJ)Z"⟩ : MethodName) (head1 (Jvm.Cond.code (⟨"com/example/bookfence/bookfence/engine/Side", "allows", "(JJ)Z"⟩ : MethodName) prog_44_method_5_code 5 (some .boolean) :: ws) ({ frames := 0, cells := 0, slots := 0, locals := 0 } : Room)) (fun a U => a = #[(.ref s_SELL), (.long p1), (.long (p1 + ((((p0 >>> ((2 : Int32) &&& 31)) &&& (3 : Int32)) - (1 : Int32)).toInt64)))] ∧ Z.Warmed39 U.vm ∧ U.heap = h0) (fun _ _ _ _ _ => True) (fun _ U o U' => ∃ v L, o = .returned v ∧ QV (.int (1 : Int32)) h0 n0 v U'.heap L ∧ FrameEnd U o U' L ({ frames := 0, cells := 0, slots := 0, locals := 0 } : Room).cells ({ frames := 0, cells := 0, slots := 0, locals := 0 } : Room).slots) := by
  obtain ⟨S_SELL, S_BUY, ne_BUY_SELL, E_SELL, E_BUY⟩ := id K
  refine MetFree.of_bodySF (plainFor_of_name pn0) hisR ?_
  intro p e s m args below meth c s₁ Bd hml0 hP hK
  obtain ⟨rfl, hZ, hh⟩ := hP
  have hx := Bd.exec
  have hby := Bd.bytes
  have hml : c.maxLocals = 5 := hml0
  have hown : s.vm.findClass "com/example/bookfence/bookfence/engine/Side" = some m.cls := findClass_of_methodNamed Bd.named
  have X0 : Stand p l e ({ frames := 0, cells := 0, slots := 0, locals := 0 } : Room) s m #[(.ref s_SELL), (.long p1), (.long (p1 + ((((p0 >>> ((2 : Int32) &&& 31)) &&& (3 : Int32)) - (1 : Int32)).toInt64)))] below meth c s₁ [] 0 0 := Stand.of_body Bd
  have e0 : s₁.heap = h0 := by rw [← hh, Bd.state]; rfl
  have N0 := Fr.nil n0
  have pre0 : ∀ t, Steps p.tables e below (s₁.setTop (mkF m 0 #[.val (.ref s_SELL), .val (.long p1), .second, .val (.long (p1 + ((((p0 >>> ((2 : Int32) &&& 31)) &&& (3 : Int32)) - (1 : Int32)).toInt64))), .second] [])) t → Steps p.tables e below (s₁.setTop (entryFrame m #[(.ref s_SELL), (.long p1), (.long (p1 + ((((p0 >>> ((2 : Int32) &&& 31)) &&& (3 : Int32)) - (1 : Int32)).toInt64)))] 5)) t := fun t k => castTop (by first | (simp [entryFrame, mkF, argsToLocals, Value.category]; done) | rfl) k
  obtain ⟨T1, X1, e1, st1⟩ := getS X0 hx hZ hown (host := "") (hw _ (List.mem_of_getElem? (i := 8) rfl)) Via.refl e0 S_BUY (g := (mkF m 1 #[.val (.ref s_SELL), .val (.long p1), .second, .val (.long (p1 + ((((p0 >>> ((2 : Int32) &&& 31)) &&& (3 : Int32)) - (1 : Int32)).toInt64))), .second] [(.ref s_SELL)])) rfl (hb hby d0_1)
  obtain ⟨fs, hr, hrun, hended, hW, hsame⟩ := X1.leave (v := some (.int (1 : Int32))) (fun h => by rw [Bd.returns] at h; cases h)
  refine ⟨_, _, pre0 _ ?_, hrun, hended, _, _, rfl, ?_, ⟨_, rfl⟩, hW, hsame.mono (by decide) (by decide)⟩
  · show Steps p.tables e below (s₁.setTop (mkF m 0 #[.val (.ref s_SELL), .val (.long p1), .second, .val (.long (p1 + ((((p0 >>> ((2 : Int32) &&& 31)) &&& (3 : Int32)) - (1 : Int32)).toInt64))), .second] [])) _
    refine XS.aloadN X0.here hx rfl (hb hby d0_0) rfl rfl ?_
    show Steps p.tables e below (s₁.setTop (mkF m 1 #[.val (.ref s_SELL), .val (.long p1), .second, .val (.long (p1 + ((((p0 >>> ((2 : Int32) &&& 31)) &&& (3 : Int32)) - (1 : Int32)).toInt64))), .second] [(.ref s_SELL)])) _
    refine st1 _ ?_
    show Steps p.tables e below (T1.setTop (mkF m 4 #[.val (.ref s_SELL), .val (.long p1), .second, .val (.long (p1 + ((((p0 >>> ((2 : Int32) &&& 31)) &&& (3 : Int32)) - (1 : Int32)).toInt64))), .second] [(.ref s_BUY), (.ref s_SELL)])) _
    refine Jvm.RoadKit.acmp (g := (mkF m 4 #[.val (.ref s_SELL), .val (.long p1), .second, .val (.long (p1 + ((((p0 >>> ((2 : Int32) &&& 31)) &&& (3 : Int32)) - (1 : Int32)).toInt64))), .second] [(.ref s_BUY), (.ref s_SELL)])) X1 hx rfl rfl rfl (pc0 := 4) (pc' := 21) (same := false) rfl (hb hby d0_4) rfl (decide_eq_false fun q => (Ne.symm ne_BUY_SELL) (Value.ref.inj q)) (by decide) (by decide) ?_
    show Steps p.tables e below (T1.setTop (mkF m 21 #[.val (.ref s_SELL), .val (.long p1), .second, .val (.long (p1 + ((((p0 >>> ((2 : Int32) &&& 31)) &&& (3 : Int32)) - (1 : Int32)).toInt64))), .second] [])) _
    refine XS.lloadN X1.here hx rfl (hb hby d0_21) rfl ?_
    show Steps p.tables e below (T1.setTop (mkF m 22 #[.val (.ref s_SELL), .val (.long p1), .second, .val (.long (p1 + ((((p0 >>> ((2 : Int32) &&& 31)) &&& (3 : Int32)) - (1 : Int32)).toInt64))), .second] [(.long (p1 + ((((p0 >>> ((2 : Int32) &&& 31)) &&& (3 : Int32)) - (1 : Int32)).toInt64)))])) _
    refine XS.lloadN X1.here hx rfl (hb hby d0_22) rfl ?_
    show Steps p.tables e below (T1.setTop (mkF m 23 #[.val (.ref s_SELL), .val (.long p1), .second, .val (.long (p1 + ((((p0 >>> ((2 : Int32) &&& 31)) &&& (3 : Int32)) - (1 : Int32)).toInt64))), .second] [(.long p1), (.long (p1 + ((((p0 >>> ((2 : Int32) &&& 31)) &&& (3 : Int32)) - (1 : Int32)).toInt64)))])) _
    refine XS.lcmp X1.here hx rfl (hb hby d0_23) rfl ?_
    show Steps p.tables e below (T1.setTop (mkF m 24 #[.val (.ref s_SELL), .val (.long p1), .second, .val (.long (p1 + ((((p0 >>> ((2 : Int32) &&& 31)) &&& (3 : Int32)) - (1 : Int32)).toInt64))), .second] [(.int (lcmpW (p1 + ((((p0 >>> ((2 : Int32) &&& 31)) &&& (3 : Int32)) - (1 : Int32)).toInt64)) p1))])) _
    rw [own_lc_gt hc]
    show Steps p.tables e below (T1.setTop (mkF m 24 #[.val (.ref s_SELL), .val (.long p1), .second, .val (.long (p1 + ((((p0 >>> ((2 : Int32) &&& 31)) &&& (3 : Int32)) - (1 : Int32)).toInt64))), .second] [(.int (1 : Int32))])) _
    refine XS.ifNo X1.here hx rfl (hb hby d0_24) rfl (by decide +kernel) ?_
    show Steps p.tables e below (T1.setTop (mkF m 27 #[.val (.ref s_SELL), .val (.long p1), .second, .val (.long (p1 + ((((p0 >>> ((2 : Int32) &&& 31)) &&& (3 : Int32)) - (1 : Int32)).toInt64))), .second] [])) _
    refine XS.iconst X1.here hx rfl (hb hby d0_27) ?_
    show Steps p.tables e below (T1.setTop (mkF m 28 #[.val (.ref s_SELL), .val (.long p1), .second, .val (.long (p1 + ((((p0 >>> ((2 : Int32) &&& 31)) &&& (3 : Int32)) - (1 : Int32)).toInt64))), .second] [(.int (1 : Int32))])) _
    refine XS.goto X1.here hx rfl (pc0 := 28) (pc' := 32) rfl (hb hby d0_28) (by decide) (by decide) ?_
    show Steps p.tables e below (T1.setTop (mkF m 32 #[.val (.ref s_SELL), .val (.long p1), .second, .val (.long (p1 + ((((p0 >>> ((2 : Int32) &&& 31)) &&& (3 : Int32)) - (1 : Int32)).toInt64))), .second] [(.int (1 : Int32))])) _
    exact retN X1 hx (t := .boolean) Bd.returns (by simp) (hb hby d0_32) hr
  · exact ⟨rfl, N0, e1⟩
set_option maxRecDepth 65536 in
set_option maxHeartbeats 40000000 in
theorem r16 (l : Launch) (Z : State) (a0 : Array Value) (hw : ∀ d ∈ tables_1, d.before a0 Z = true) (ws : List Jvm.Cond) (h0 : Heap) (n0 : Nat) (s_SELL : Addr) (s_BUY : Addr) (K : Ctx Z h0 s_SELL s_BUY) (p0 : Int32) (p1 : Int64) (hc : p1 < (p1 + ((((p0 >>> ((2 : Int32) &&& 31)) &&& (3 : Int32)) - (1 : Int32)).toInt64))) :
    MetFree l (⟨"java/lang/Math", "min", "(JJ)J"⟩ : MethodName) (head1 (Jvm.Cond.code (⟨"java/lang/Math", "min", "(JJ)J"⟩ : MethodName) jdk_29_method_70_code 4 (some .long) :: ws) ({ frames := 0, cells := 0, slots := 0, locals := 0 } : Room)) (fun a U => a = #[(.long p1), (.long (p1 + ((((p0 >>> ((2 : Int32) &&& 31)) &&& (3 : Int32)) - (1 : Int32)).toInt64)))] ∧ Z.Warmed39 U.vm ∧ U.heap = h0) (fun _ _ _ _ _ => True) (fun _ U o U' => ∃ v L, o = .returned v ∧ QV (.long p1) h0 n0 v U'.heap L ∧ FrameEnd U o U' L ({ frames := 0, cells := 0, slots := 0, locals := 0 } : Room).cells ({ frames := 0, cells := 0, slots := 0, locals := 0 } : Room).slots) := by
  obtain ⟨S_SELL, S_BUY, ne_BUY_SELL, E_SELL, E_BUY⟩ := id K
  refine MetFree.of_bodySF (Jvm.Free.JP.mathPlain rfl (by decide +kernel)) hisR ?_
  intro p e s m args below meth c s₁ Bd hml0 hP hK
  obtain ⟨rfl, hZ, hh⟩ := hP
  have hx := Bd.exec
  have hby := Bd.bytes
  have hml : c.maxLocals = 4 := hml0
  have hown : s.vm.findClass "java/lang/Math" = some m.cls := findClass_of_methodNamed Bd.named
  have X0 : Stand p l e ({ frames := 0, cells := 0, slots := 0, locals := 0 } : Room) s m #[(.long p1), (.long (p1 + ((((p0 >>> ((2 : Int32) &&& 31)) &&& (3 : Int32)) - (1 : Int32)).toInt64)))] below meth c s₁ [] 0 0 := Stand.of_body Bd
  have e0 : s₁.heap = h0 := by rw [← hh, Bd.state]; rfl
  have N0 := Fr.nil n0
  have pre0 : ∀ t, Steps p.tables e below (s₁.setTop (mkF m 0 #[.val (.long p1), .second, .val (.long (p1 + ((((p0 >>> ((2 : Int32) &&& 31)) &&& (3 : Int32)) - (1 : Int32)).toInt64))), .second] [])) t → Steps p.tables e below (s₁.setTop (entryFrame m #[(.long p1), (.long (p1 + ((((p0 >>> ((2 : Int32) &&& 31)) &&& (3 : Int32)) - (1 : Int32)).toInt64)))] 4)) t := fun t k => castTop (by first | (simp [entryFrame, mkF, argsToLocals, Value.category]; done) | rfl) k
  obtain ⟨fs, hr, hrun, hended, hW, hsame⟩ := X0.leave (v := some (.long p1)) (fun h => by rw [Bd.returns] at h; cases h)
  refine ⟨_, _, pre0 _ ?_, hrun, hended, _, _, rfl, ?_, ⟨_, rfl⟩, hW, hsame.mono (by decide) (by decide)⟩
  · show Steps p.tables e below (s₁.setTop (mkF m 0 #[.val (.long p1), .second, .val (.long (p1 + ((((p0 >>> ((2 : Int32) &&& 31)) &&& (3 : Int32)) - (1 : Int32)).toInt64))), .second] [])) _
    refine XS.lloadN X0.here hx rfl (hb hby d1_0) rfl ?_
    show Steps p.tables e below (s₁.setTop (mkF m 1 #[.val (.long p1), .second, .val (.long (p1 + ((((p0 >>> ((2 : Int32) &&& 31)) &&& (3 : Int32)) - (1 : Int32)).toInt64))), .second] [(.long p1)])) _
    refine XS.lloadN X0.here hx rfl (hb hby d1_1) rfl ?_
    show Steps p.tables e below (s₁.setTop (mkF m 2 #[.val (.long p1), .second, .val (.long (p1 + ((((p0 >>> ((2 : Int32) &&& 31)) &&& (3 : Int32)) - (1 : Int32)).toInt64))), .second] [(.long (p1 + ((((p0 >>> ((2 : Int32) &&& 31)) &&& (3 : Int32)) - (1 : Int32)).toInt64))), (.long p1)])) _
    refine XS.lcmp X0.here hx rfl (hb hby d1_2) rfl ?_
    show Steps p.tables e below (s₁.setTop (mkF m 3 #[.val (.long p1), .second, .val (.long (p1 + ((((p0 >>> ((2 : Int32) &&& 31)) &&& (3 : Int32)) - (1 : Int32)).toInt64))), .second] [(.int (lcmpW p1 (p1 + ((((p0 >>> ((2 : Int32) &&& 31)) &&& (3 : Int32)) - (1 : Int32)).toInt64))))])) _
    rw [own_lr_gt hc]
    show Steps p.tables e below (s₁.setTop (mkF m 3 #[.val (.long p1), .second, .val (.long (p1 + ((((p0 >>> ((2 : Int32) &&& 31)) &&& (3 : Int32)) - (1 : Int32)).toInt64))), .second] [(.int (-1 : Int32))])) _
    refine XS.ifNo X0.here hx rfl (hb hby d1_3) rfl (by decide +kernel) ?_
    show Steps p.tables e below (s₁.setTop (mkF m 6 #[.val (.long p1), .second, .val (.long (p1 + ((((p0 >>> ((2 : Int32) &&& 31)) &&& (3 : Int32)) - (1 : Int32)).toInt64))), .second] [])) _
    refine XS.lloadN X0.here hx rfl (hb hby d1_6) rfl ?_
    show Steps p.tables e below (s₁.setTop (mkF m 7 #[.val (.long p1), .second, .val (.long (p1 + ((((p0 >>> ((2 : Int32) &&& 31)) &&& (3 : Int32)) - (1 : Int32)).toInt64))), .second] [(.long p1)])) _
    refine XS.goto X0.here hx rfl (pc0 := 7) (pc' := 11) rfl (hb hby d1_7) (by decide) (by decide) ?_
    show Steps p.tables e below (s₁.setTop (mkF m 11 #[.val (.long p1), .second, .val (.long (p1 + ((((p0 >>> ((2 : Int32) &&& 31)) &&& (3 : Int32)) - (1 : Int32)).toInt64))), .second] [(.long p1)])) _
    exact retOut X0 hx (i := .lreturn) Bd.returns rfl (Or.inr (Or.inl ⟨rfl, rfl, _, rfl⟩)) (hb hby d1_11) hr
  · exact ⟨rfl, N0, e0⟩
set_option maxRecDepth 65536 in
set_option maxHeartbeats 40000000 in
theorem law_k0_2_gt (l : Launch) (Z : State) (a0 : Array Value) (hw : ∀ d ∈ tables_1, d.before a0 Z = true) (ws : List Jvm.Cond) (h0 : Heap) (n0 : Nat) (s_SELL : Addr) (s_BUY : Addr) (K : Ctx Z h0 s_SELL s_BUY) (p0 : Int32) (p1 : Int64) (p2 : Int64) (ha : (p0 &&& (1 : Int32)) = (0 : Int32)) (hb1 : (p0 &&& (2 : Int32)) = (2 : Int32)) (hc : p1 < (p1 + ((((p0 >>> ((2 : Int32) &&& 31)) &&& (3 : Int32)) - (1 : Int32)).toInt64))) :
    MetFree l x (head1 (Jvm.Cond.code x code maxLocals ret :: ws) room_1) (fun a U => a = #[(.int p0), (.long p1), (.long p2)] ∧ Z.Warmed39 U.vm ∧ U.heap = h0) (fun _ _ _ _ _ => True) (fun _ U o U' => ∃ v L, o = .returned v ∧ QV (.int (1 : Int32)) h0 n0 v U'.heap L ∧ FrameEnd U o U' L room_1.cells room_1.slots) := by
  obtain ⟨S_SELL, S_BUY, ne_BUY_SELL, E_SELL, E_BUY⟩ := id K
  refine MetFree.of_bodySF (plainFor_of_name pn3) hisR ?_
  intro p e s m args below meth c s₁ Bd hml0 hP hK
  obtain ⟨rfl, hZ, hh⟩ := hP
  have hx := Bd.exec
  have hby := Bd.bytes
  have hml : c.maxLocals = 12 := hml0
  have hown : s.vm.findClass "com/example/bookfence/bookfence/engine/SideAllowsPinLaw" = some m.cls := findClass_of_methodNamed Bd.named
  have X0 : Stand p l e room_1 s m #[(.int p0), (.long p1), (.long p2)] below meth c s₁ [] 0 0 := Stand.of_body Bd
  have e0 : s₁.heap = h0 := by rw [← hh, Bd.state]; rfl
  have N0 := Fr.nil n0
  have pre0 : ∀ t, Steps p.tables e below (s₁.setTop (mkF m 0 #[.val (.int p0), .val (.long p1), .second, .val (.long p2), .second, .unset, .unset, .unset, .unset, .unset, .unset, .unset] [])) t → Steps p.tables e below (s₁.setTop (entryFrame m #[(.int p0), (.long p1), (.long p2)] maxLocals)) t := fun t k => castTop (by first | (simp [entryFrame, mkF, argsToLocals, Value.category, maxLocals]; done) | rfl) k
  obtain ⟨T1, X1, e1, st1⟩ := getS X0 hx hZ hown (host := "") (hw _ (List.mem_of_getElem? (i := 0) rfl)) Via.refl e0 S_SELL (g := (mkF m 12 #[.val (.int p0), .val (.long p1), .second, .val (.long p2), .second, .unset, .unset, .unset, .unset, .unset, .unset, .unset] [])) rfl (hb hby at_12)
  obtain ⟨cq2, kq2, q2a, q2b, q2c⟩ := isOf hZ e1 E_SELL
  obtain ⟨_, _, ⟨T2, L2, k2, n2⟩, -, X2, ⟨Lc2, hQ2, l2, y2, z2⟩, st2⟩ := X1.virtualBack hx (y := (⟨"com/example/bookfence/bookfence/engine/Side", "allows", "(JJ)Z"⟩ : MethodName)) (z := (⟨"com/example/bookfence/bookfence/engine/Side", "allows", "(JJ)Z"⟩ : MethodName)) hown (mvT hZ (hw _ (List.mem_of_getElem? (i := 3) rfl))) (mvT hZ (hw _ (List.mem_of_getElem? (i := 4) rfl))) (notFace_of_selects (args := #[]) (mvT hZ (hw _ (List.mem_of_getElem? (i := 6) rfl)))) (mvT hZ (hw _ (List.mem_of_getElem? (i := 6) rfl))) (mvT hZ (hw _ (List.mem_of_getElem? (i := 5) rfl))) (by decide) (backOf (W := 0) (r15 l Z a0 hw [] h0 n0 s_SELL s_BUY K p0 p1 hc) hZ (hw _ (List.mem_of_getElem? (i := 7) rfl)) (hw _ (List.mem_of_getElem? (i := 1) rfl)) (by decide) (by decide)) q2a q2c (g := (mkF m 48 #[.val (.int p0), .val (.long p1), .second, .val (.long p2), .second, .val (.ref s_SELL), .val (.long ((((p0 >>> ((2 : Int32) &&& 31)) &&& (3 : Int32)) - (1 : Int32)).toInt64)), .second, .val (.long (p1 + ((((p0 >>> ((2 : Int32) &&& 31)) &&& (3 : Int32)) - (1 : Int32)).toInt64))), .second, .unset, .unset] [(.long (p1 + ((((p0 >>> ((2 : Int32) &&& 31)) &&& (3 : Int32)) - (1 : Int32)).toInt64))), (.long p1), (.ref s_SELL)])) rfl (by rw [hml]; rfl) (Steps.refl _) (argsL := [(.long p1), (.long (p1 + ((((p0 >>> ((2 : Int32) &&& 31)) &&& (3 : Int32)) - (1 : Int32)).toInt64)))]) (rest := []) (lenOf pd0 rfl) rfl (by show 2 * 0 + _ ≤ _; exact Nat.le_of_eq rfl) (hb hby at_48) (fun _ _ => ⟨rfl, e1, (by decide : 0 + 0 ≤ _), (by decide : 0 + 0 ≤ _)⟩)
  dsimp only [Pt.U, Pt.locs, Pt.cells, Pt.slots] at X2 l2 y2 z2 st2 hQ2
  subst l2 y2 z2
  obtain ⟨rfl, N2q, e2⟩ := hQ2
  have N2 := Fr.app N0 N2q
  obtain ⟨T3, X3, e3, st3⟩ := getS X2 hx hZ hown (host := "") (hw _ (List.mem_of_getElem? (i := 10) rfl)) Via.refl e2 S_BUY (g := (mkF m 55 #[.val (.int p0), .val (.long p1), .second, .val (.long p2), .second, .val (.ref s_SELL), .val (.long ((((p0 >>> ((2 : Int32) &&& 31)) &&& (3 : Int32)) - (1 : Int32)).toInt64)), .second, .val (.long (p1 + ((((p0 >>> ((2 : Int32) &&& 31)) &&& (3 : Int32)) - (1 : Int32)).toInt64))), .second, .val (.int (1 : Int32)), .unset] [(.ref s_SELL)])) rfl (hb hby at_55)
  obtain ⟨_, _, ⟨T4, L4, k4, n4⟩, -, X4, ⟨Lc4, hQ4, l4, y4, z4⟩, st4⟩ := Jvm.LawKit.callS X3 hx (y := (⟨"java/lang/Math", "min", "(JJ)J"⟩ : MethodName)) hown (mvT hZ (hw _ (List.mem_of_getElem? (i := 11) rfl))) (mvT hZ (hw _ (List.mem_of_getElem? (i := 12) rfl))) (mvT hZ (hw _ (List.mem_of_getElem? (i := 13) rfl))) (mvT hZ (hw _ (List.mem_of_getElem? (i := 14) rfl))) (by decide) (backOf (W := 0) (r16 l Z a0 hw [] h0 n0 s_SELL s_BUY K p0 p1 hc) hZ (hw _ (List.mem_of_getElem? (i := 14) rfl)) (hw _ (List.mem_of_getElem? (i := 13) rfl)) (by decide) (by decide)) (g := (mkF m 85 #[.val (.int p0), .val (.long p1), .second, .val (.long p2), .second, .val (.ref s_SELL), .val (.long ((((p0 >>> ((2 : Int32) &&& 31)) &&& (3 : Int32)) - (1 : Int32)).toInt64)), .second, .val (.long (p1 + ((((p0 >>> ((2 : Int32) &&& 31)) &&& (3 : Int32)) - (1 : Int32)).toInt64))), .second, .val (.int (1 : Int32)), .unset] [(.long (p1 + ((((p0 >>> ((2 : Int32) &&& 31)) &&& (3 : Int32)) - (1 : Int32)).toInt64))), (.long p1)])) rfl (by rw [hml]; rfl) (argsL := [(.long p1), (.long (p1 + ((((p0 >>> ((2 : Int32) &&& 31)) &&& (3 : Int32)) - (1 : Int32)).toInt64)))]) (rest := []) (lenOf pd1 rfl) rfl (by show 2 * 0 + _ ≤ _; exact Nat.le_of_eq rfl) (hb hby at_85) (fun _ _ => ⟨rfl, e3, (by decide : 0 + 0 ≤ _), (by decide : 0 + 0 ≤ _)⟩)
  dsimp only [Pt.U, Pt.locs, Pt.cells, Pt.slots] at X4 l4 y4 z4 st4 hQ4
  subst l4 y4 z4
  obtain ⟨rfl, N4q, e4⟩ := hQ4
  have N4 := Fr.app N2 N4q
  obtain ⟨fs, hr, hrun, hended, hW, hsame⟩ := X4.leave (v := some (.int (1 : Int32))) (fun h => by rw [Bd.returns] at h; cases h)
  refine ⟨_, _, pre0 _ ?_, hrun, hended, _, _, rfl, ?_, ⟨_, rfl⟩, hW, hsame.mono (by decide) (by decide)⟩
  · show Steps p.tables e below (s₁.setTop (mkF m 0 #[.val (.int p0), .val (.long p1), .second, .val (.long p2), .second, .unset, .unset, .unset, .unset, .unset, .unset, .unset] [])) _
    refine XS.iloadN X0.here hx rfl (hb hby at_0) rfl ?_
    show Steps p.tables e below (s₁.setTop (mkF m 1 #[.val (.int p0), .val (.long p1), .second, .val (.long p2), .second, .unset, .unset, .unset, .unset, .unset, .unset, .unset] [(.int p0)])) _
    refine XS.iconst X0.here hx rfl (hb hby at_1) ?_
    show Steps p.tables e below (s₁.setTop (mkF m 2 #[.val (.int p0), .val (.long p1), .second, .val (.long p2), .second, .unset, .unset, .unset, .unset, .unset, .unset, .unset] [(.int (1 : Int32)), (.int p0)])) _
    refine XS.iand X0.here hx rfl (hb hby at_2) rfl ?_
    show Steps p.tables e below (s₁.setTop (mkF m 3 #[.val (.int p0), .val (.long p1), .second, .val (.long p2), .second, .unset, .unset, .unset, .unset, .unset, .unset, .unset] [(.int (p0 &&& (1 : Int32)))])) _
    rw [ha]
    show Steps p.tables e below (s₁.setTop (mkF m 3 #[.val (.int p0), .val (.long p1), .second, .val (.long p2), .second, .unset, .unset, .unset, .unset, .unset, .unset, .unset] [(.int (0 : Int32))])) _
    refine XS.ifYes X0.here hx rfl (pc0 := 3) (pc' := 12) rfl (hb hby at_3) rfl (by decide +kernel) (by decide) (by decide) ?_
    show Steps p.tables e below (s₁.setTop (mkF m 12 #[.val (.int p0), .val (.long p1), .second, .val (.long p2), .second, .unset, .unset, .unset, .unset, .unset, .unset, .unset] [])) _
    refine st1 _ ?_
    show Steps p.tables e below (T1.setTop (mkF m 15 #[.val (.int p0), .val (.long p1), .second, .val (.long p2), .second, .unset, .unset, .unset, .unset, .unset, .unset, .unset] [(.ref s_SELL)])) _
    refine XS.astore X1.here hx rfl (hb hby at_15) rfl rfl (l' := #[.val (.int p0), .val (.long p1), .second, .val (.long p2), .second, .val (.ref s_SELL), .unset, .unset, .unset, .unset, .unset, .unset]) rfl ?_
    show Steps p.tables e below (T1.setTop (mkF m 17 #[.val (.int p0), .val (.long p1), .second, .val (.long p2), .second, .val (.ref s_SELL), .unset, .unset, .unset, .unset, .unset, .unset] [])) _
    refine XS.iloadN X1.here hx rfl (hb hby at_17) rfl ?_
    show Steps p.tables e below (T1.setTop (mkF m 18 #[.val (.int p0), .val (.long p1), .second, .val (.long p2), .second, .val (.ref s_SELL), .unset, .unset, .unset, .unset, .unset, .unset] [(.int p0)])) _
    refine XS.iconst X1.here hx rfl (hb hby at_18) ?_
    show Steps p.tables e below (T1.setTop (mkF m 19 #[.val (.int p0), .val (.long p1), .second, .val (.long p2), .second, .val (.ref s_SELL), .unset, .unset, .unset, .unset, .unset, .unset] [(.int (2 : Int32)), (.int p0)])) _
    refine XS.ishr X1.here hx rfl (hb hby at_19) rfl ?_
    show Steps p.tables e below (T1.setTop (mkF m 20 #[.val (.int p0), .val (.long p1), .second, .val (.long p2), .second, .val (.ref s_SELL), .unset, .unset, .unset, .unset, .unset, .unset] [(.int (p0 >>> ((2 : Int32) &&& 31)))])) _
    refine XS.iconst X1.here hx rfl (hb hby at_20) ?_
    show Steps p.tables e below (T1.setTop (mkF m 21 #[.val (.int p0), .val (.long p1), .second, .val (.long p2), .second, .val (.ref s_SELL), .unset, .unset, .unset, .unset, .unset, .unset] [(.int (3 : Int32)), (.int (p0 >>> ((2 : Int32) &&& 31)))])) _
    refine XS.iand X1.here hx rfl (hb hby at_21) rfl ?_
    show Steps p.tables e below (T1.setTop (mkF m 22 #[.val (.int p0), .val (.long p1), .second, .val (.long p2), .second, .val (.ref s_SELL), .unset, .unset, .unset, .unset, .unset, .unset] [(.int ((p0 >>> ((2 : Int32) &&& 31)) &&& (3 : Int32)))])) _
    refine XS.iconst X1.here hx rfl (hb hby at_22) ?_
    show Steps p.tables e below (T1.setTop (mkF m 23 #[.val (.int p0), .val (.long p1), .second, .val (.long p2), .second, .val (.ref s_SELL), .unset, .unset, .unset, .unset, .unset, .unset] [(.int (1 : Int32)), (.int ((p0 >>> ((2 : Int32) &&& 31)) &&& (3 : Int32)))])) _
    refine XS.isub X1.here hx rfl (hb hby at_23) rfl ?_
    show Steps p.tables e below (T1.setTop (mkF m 24 #[.val (.int p0), .val (.long p1), .second, .val (.long p2), .second, .val (.ref s_SELL), .unset, .unset, .unset, .unset, .unset, .unset] [(.int (((p0 >>> ((2 : Int32) &&& 31)) &&& (3 : Int32)) - (1 : Int32)))])) _
    refine XS.i2l X1.here hx rfl (hb hby at_24) rfl ?_
    show Steps p.tables e below (T1.setTop (mkF m 25 #[.val (.int p0), .val (.long p1), .second, .val (.long p2), .second, .val (.ref s_SELL), .unset, .unset, .unset, .unset, .unset, .unset] [(.long ((((p0 >>> ((2 : Int32) &&& 31)) &&& (3 : Int32)) - (1 : Int32)).toInt64))])) _
    refine XS.lstore X1.here hx rfl (hb hby at_25) rfl (l' := #[.val (.int p0), .val (.long p1), .second, .val (.long p2), .second, .val (.ref s_SELL), .val (.long ((((p0 >>> ((2 : Int32) &&& 31)) &&& (3 : Int32)) - (1 : Int32)).toInt64)), .second, .unset, .unset, .unset, .unset]) rfl ?_
    show Steps p.tables e below (T1.setTop (mkF m 27 #[.val (.int p0), .val (.long p1), .second, .val (.long p2), .second, .val (.ref s_SELL), .val (.long ((((p0 >>> ((2 : Int32) &&& 31)) &&& (3 : Int32)) - (1 : Int32)).toInt64)), .second, .unset, .unset, .unset, .unset] [])) _
    refine XS.iloadN X1.here hx rfl (hb hby at_27) rfl ?_
    show Steps p.tables e below (T1.setTop (mkF m 28 #[.val (.int p0), .val (.long p1), .second, .val (.long p2), .second, .val (.ref s_SELL), .val (.long ((((p0 >>> ((2 : Int32) &&& 31)) &&& (3 : Int32)) - (1 : Int32)).toInt64)), .second, .unset, .unset, .unset, .unset] [(.int p0)])) _
    refine XS.iconst X1.here hx rfl (hb hby at_28) ?_
    show Steps p.tables e below (T1.setTop (mkF m 29 #[.val (.int p0), .val (.long p1), .second, .val (.long p2), .second, .val (.ref s_SELL), .val (.long ((((p0 >>> ((2 : Int32) &&& 31)) &&& (3 : Int32)) - (1 : Int32)).toInt64)), .second, .unset, .unset, .unset, .unset] [(.int (2 : Int32)), (.int p0)])) _
    refine XS.iand X1.here hx rfl (hb hby at_29) rfl ?_
    show Steps p.tables e below (T1.setTop (mkF m 30 #[.val (.int p0), .val (.long p1), .second, .val (.long p2), .second, .val (.ref s_SELL), .val (.long ((((p0 >>> ((2 : Int32) &&& 31)) &&& (3 : Int32)) - (1 : Int32)).toInt64)), .second, .unset, .unset, .unset, .unset] [(.int (p0 &&& (2 : Int32)))])) _
    rw [hb1]
    show Steps p.tables e below (T1.setTop (mkF m 30 #[.val (.int p0), .val (.long p1), .second, .val (.long p2), .second, .val (.ref s_SELL), .val (.long ((((p0 >>> ((2 : Int32) &&& 31)) &&& (3 : Int32)) - (1 : Int32)).toInt64)), .second, .unset, .unset, .unset, .unset] [(.int (2 : Int32))])) _
    refine XS.ifNo X1.here hx rfl (hb hby at_30) rfl (by decide +kernel) ?_
    show Steps p.tables e below (T1.setTop (mkF m 33 #[.val (.int p0), .val (.long p1), .second, .val (.long p2), .second, .val (.ref s_SELL), .val (.long ((((p0 >>> ((2 : Int32) &&& 31)) &&& (3 : Int32)) - (1 : Int32)).toInt64)), .second, .unset, .unset, .unset, .unset] [])) _
    refine XS.lloadN X1.here hx rfl (hb hby at_33) rfl ?_
    show Steps p.tables e below (T1.setTop (mkF m 34 #[.val (.int p0), .val (.long p1), .second, .val (.long p2), .second, .val (.ref s_SELL), .val (.long ((((p0 >>> ((2 : Int32) &&& 31)) &&& (3 : Int32)) - (1 : Int32)).toInt64)), .second, .unset, .unset, .unset, .unset] [(.long p1)])) _
    refine XS.lload X1.here hx rfl (hb hby at_34) rfl ?_
    show Steps p.tables e below (T1.setTop (mkF m 36 #[.val (.int p0), .val (.long p1), .second, .val (.long p2), .second, .val (.ref s_SELL), .val (.long ((((p0 >>> ((2 : Int32) &&& 31)) &&& (3 : Int32)) - (1 : Int32)).toInt64)), .second, .unset, .unset, .unset, .unset] [(.long ((((p0 >>> ((2 : Int32) &&& 31)) &&& (3 : Int32)) - (1 : Int32)).toInt64)), (.long p1)])) _
    refine XS.ladd X1.here hx rfl (hb hby at_36) rfl ?_
    show Steps p.tables e below (T1.setTop (mkF m 37 #[.val (.int p0), .val (.long p1), .second, .val (.long p2), .second, .val (.ref s_SELL), .val (.long ((((p0 >>> ((2 : Int32) &&& 31)) &&& (3 : Int32)) - (1 : Int32)).toInt64)), .second, .unset, .unset, .unset, .unset] [(.long (p1 + ((((p0 >>> ((2 : Int32) &&& 31)) &&& (3 : Int32)) - (1 : Int32)).toInt64)))])) _
    refine XS.goto X1.here hx rfl (pc0 := 37) (pc' := 41) rfl (hb hby at_37) (by decide) (by decide) ?_
    show Steps p.tables e below (T1.setTop (mkF m 41 #[.val (.int p0), .val (.long p1), .second, .val (.long p2), .second, .val (.ref s_SELL), .val (.long ((((p0 >>> ((2 : Int32) &&& 31)) &&& (3 : Int32)) - (1 : Int32)).toInt64)), .second, .unset, .unset, .unset, .unset] [(.long (p1 + ((((p0 >>> ((2 : Int32) &&& 31)) &&& (3 : Int32)) - (1 : Int32)).toInt64)))])) _
    refine XS.lstore X1.here hx rfl (hb hby at_41) rfl (l' := #[.val (.int p0), .val (.long p1), .second, .val (.long p2), .second, .val (.ref s_SELL), .val (.long ((((p0 >>> ((2 : Int32) &&& 31)) &&& (3 : Int32)) - (1 : Int32)).toInt64)), .second, .val (.long (p1 + ((((p0 >>> ((2 : Int32) &&& 31)) &&& (3 : Int32)) - (1 : Int32)).toInt64))), .second, .unset, .unset]) rfl ?_
    show Steps p.tables e below (T1.setTop (mkF m 43 #[.val (.int p0), .val (.long p1), .second, .val (.long p2), .second, .val (.ref s_SELL), .val (.long ((((p0 >>> ((2 : Int32) &&& 31)) &&& (3 : Int32)) - (1 : Int32)).toInt64)), .second, .val (.long (p1 + ((((p0 >>> ((2 : Int32) &&& 31)) &&& (3 : Int32)) - (1 : Int32)).toInt64))), .second, .unset, .unset] [])) _
    refine XS.aload X1.here hx rfl (hb hby at_43) rfl rfl ?_
    show Steps p.tables e below (T1.setTop (mkF m 45 #[.val (.int p0), .val (.long p1), .second, .val (.long p2), .second, .val (.ref s_SELL), .val (.long ((((p0 >>> ((2 : Int32) &&& 31)) &&& (3 : Int32)) - (1 : Int32)).toInt64)), .second, .val (.long (p1 + ((((p0 >>> ((2 : Int32) &&& 31)) &&& (3 : Int32)) - (1 : Int32)).toInt64))), .second, .unset, .unset] [(.ref s_SELL)])) _
    refine XS.lloadN X1.here hx rfl (hb hby at_45) rfl ?_
    show Steps p.tables e below (T1.setTop (mkF m 46 #[.val (.int p0), .val (.long p1), .second, .val (.long p2), .second, .val (.ref s_SELL), .val (.long ((((p0 >>> ((2 : Int32) &&& 31)) &&& (3 : Int32)) - (1 : Int32)).toInt64)), .second, .val (.long (p1 + ((((p0 >>> ((2 : Int32) &&& 31)) &&& (3 : Int32)) - (1 : Int32)).toInt64))), .second, .unset, .unset] [(.long p1), (.ref s_SELL)])) _
    refine XS.lload X1.here hx rfl (hb hby at_46) rfl ?_
    show Steps p.tables e below (T1.setTop (mkF m 48 #[.val (.int p0), .val (.long p1), .second, .val (.long p2), .second, .val (.ref s_SELL), .val (.long ((((p0 >>> ((2 : Int32) &&& 31)) &&& (3 : Int32)) - (1 : Int32)).toInt64)), .second, .val (.long (p1 + ((((p0 >>> ((2 : Int32) &&& 31)) &&& (3 : Int32)) - (1 : Int32)).toInt64))), .second, .unset, .unset] [(.long (p1 + ((((p0 >>> ((2 : Int32) &&& 31)) &&& (3 : Int32)) - (1 : Int32)).toInt64))), (.long p1), (.ref s_SELL)])) _
    refine st2.trans ?_
    show Steps p.tables e below (T2.setTop (mkF m 51 #[.val (.int p0), .val (.long p1), .second, .val (.long p2), .second, .val (.ref s_SELL), .val (.long ((((p0 >>> ((2 : Int32) &&& 31)) &&& (3 : Int32)) - (1 : Int32)).toInt64)), .second, .val (.long (p1 + ((((p0 >>> ((2 : Int32) &&& 31)) &&& (3 : Int32)) - (1 : Int32)).toInt64))), .second, .unset, .unset] [(.int (1 : Int32))])) _
    refine XS.istore X2.here hx rfl (hb hby at_51) rfl (l' := #[.val (.int p0), .val (.long p1), .second, .val (.long p2), .second, .val (.ref s_SELL), .val (.long ((((p0 >>> ((2 : Int32) &&& 31)) &&& (3 : Int32)) - (1 : Int32)).toInt64)), .second, .val (.long (p1 + ((((p0 >>> ((2 : Int32) &&& 31)) &&& (3 : Int32)) - (1 : Int32)).toInt64))), .second, .val (.int (1 : Int32)), .unset]) rfl ?_
    show Steps p.tables e below (T2.setTop (mkF m 53 #[.val (.int p0), .val (.long p1), .second, .val (.long p2), .second, .val (.ref s_SELL), .val (.long ((((p0 >>> ((2 : Int32) &&& 31)) &&& (3 : Int32)) - (1 : Int32)).toInt64)), .second, .val (.long (p1 + ((((p0 >>> ((2 : Int32) &&& 31)) &&& (3 : Int32)) - (1 : Int32)).toInt64))), .second, .val (.int (1 : Int32)), .unset] [])) _
    refine XS.aload X2.here hx rfl (hb hby at_53) rfl rfl ?_
    show Steps p.tables e below (T2.setTop (mkF m 55 #[.val (.int p0), .val (.long p1), .second, .val (.long p2), .second, .val (.ref s_SELL), .val (.long ((((p0 >>> ((2 : Int32) &&& 31)) &&& (3 : Int32)) - (1 : Int32)).toInt64)), .second, .val (.long (p1 + ((((p0 >>> ((2 : Int32) &&& 31)) &&& (3 : Int32)) - (1 : Int32)).toInt64))), .second, .val (.int (1 : Int32)), .unset] [(.ref s_SELL)])) _
    refine st3 _ ?_
    show Steps p.tables e below (T3.setTop (mkF m 58 #[.val (.int p0), .val (.long p1), .second, .val (.long p2), .second, .val (.ref s_SELL), .val (.long ((((p0 >>> ((2 : Int32) &&& 31)) &&& (3 : Int32)) - (1 : Int32)).toInt64)), .second, .val (.long (p1 + ((((p0 >>> ((2 : Int32) &&& 31)) &&& (3 : Int32)) - (1 : Int32)).toInt64))), .second, .val (.int (1 : Int32)), .unset] [(.ref s_BUY), (.ref s_SELL)])) _
    refine Jvm.RoadKit.acmp (g := (mkF m 58 #[.val (.int p0), .val (.long p1), .second, .val (.long p2), .second, .val (.ref s_SELL), .val (.long ((((p0 >>> ((2 : Int32) &&& 31)) &&& (3 : Int32)) - (1 : Int32)).toInt64)), .second, .val (.long (p1 + ((((p0 >>> ((2 : Int32) &&& 31)) &&& (3 : Int32)) - (1 : Int32)).toInt64))), .second, .val (.int (1 : Int32)), .unset] [(.ref s_BUY), (.ref s_SELL)])) X3 hx rfl rfl rfl (pc0 := 58) (pc' := 82) (same := false) rfl (hb hby at_58) rfl (decide_eq_false fun q => (Ne.symm ne_BUY_SELL) (Value.ref.inj q)) (by decide) (by decide) ?_
    show Steps p.tables e below (T3.setTop (mkF m 82 #[.val (.int p0), .val (.long p1), .second, .val (.long p2), .second, .val (.ref s_SELL), .val (.long ((((p0 >>> ((2 : Int32) &&& 31)) &&& (3 : Int32)) - (1 : Int32)).toInt64)), .second, .val (.long (p1 + ((((p0 >>> ((2 : Int32) &&& 31)) &&& (3 : Int32)) - (1 : Int32)).toInt64))), .second, .val (.int (1 : Int32)), .unset] [])) _
    refine XS.lloadN X3.here hx rfl (hb hby at_82) rfl ?_
    show Steps p.tables e below (T3.setTop (mkF m 83 #[.val (.int p0), .val (.long p1), .second, .val (.long p2), .second, .val (.ref s_SELL), .val (.long ((((p0 >>> ((2 : Int32) &&& 31)) &&& (3 : Int32)) - (1 : Int32)).toInt64)), .second, .val (.long (p1 + ((((p0 >>> ((2 : Int32) &&& 31)) &&& (3 : Int32)) - (1 : Int32)).toInt64))), .second, .val (.int (1 : Int32)), .unset] [(.long p1)])) _
    refine XS.lload X3.here hx rfl (hb hby at_83) rfl ?_
    show Steps p.tables e below (T3.setTop (mkF m 85 #[.val (.int p0), .val (.long p1), .second, .val (.long p2), .second, .val (.ref s_SELL), .val (.long ((((p0 >>> ((2 : Int32) &&& 31)) &&& (3 : Int32)) - (1 : Int32)).toInt64)), .second, .val (.long (p1 + ((((p0 >>> ((2 : Int32) &&& 31)) &&& (3 : Int32)) - (1 : Int32)).toInt64))), .second, .val (.int (1 : Int32)), .unset] [(.long (p1 + ((((p0 >>> ((2 : Int32) &&& 31)) &&& (3 : Int32)) - (1 : Int32)).toInt64))), (.long p1)])) _
    refine st4 _ ?_
    show Steps p.tables e below (T4.setTop (mkF m 88 #[.val (.int p0), .val (.long p1), .second, .val (.long p2), .second, .val (.ref s_SELL), .val (.long ((((p0 >>> ((2 : Int32) &&& 31)) &&& (3 : Int32)) - (1 : Int32)).toInt64)), .second, .val (.long (p1 + ((((p0 >>> ((2 : Int32) &&& 31)) &&& (3 : Int32)) - (1 : Int32)).toInt64))), .second, .val (.int (1 : Int32)), .unset] [(.long p1)])) _
    refine XS.lloadN X4.here hx rfl (hb hby at_88) rfl ?_
    show Steps p.tables e below (T4.setTop (mkF m 89 #[.val (.int p0), .val (.long p1), .second, .val (.long p2), .second, .val (.ref s_SELL), .val (.long ((((p0 >>> ((2 : Int32) &&& 31)) &&& (3 : Int32)) - (1 : Int32)).toInt64)), .second, .val (.long (p1 + ((((p0 >>> ((2 : Int32) &&& 31)) &&& (3 : Int32)) - (1 : Int32)).toInt64))), .second, .val (.int (1 : Int32)), .unset] [(.long p1), (.long p1)])) _
    refine XS.lcmp X4.here hx rfl (hb hby at_89) rfl ?_
    show Steps p.tables e below (T4.setTop (mkF m 90 #[.val (.int p0), .val (.long p1), .second, .val (.long p2), .second, .val (.ref s_SELL), .val (.long ((((p0 >>> ((2 : Int32) &&& 31)) &&& (3 : Int32)) - (1 : Int32)).toInt64)), .second, .val (.long (p1 + ((((p0 >>> ((2 : Int32) &&& 31)) &&& (3 : Int32)) - (1 : Int32)).toInt64))), .second, .val (.int (1 : Int32)), .unset] [(.int (lcmpW p1 p1))])) _
    rw [own_lc_eq (rfl : p1 = p1)]
    show Steps p.tables e below (T4.setTop (mkF m 90 #[.val (.int p0), .val (.long p1), .second, .val (.long p2), .second, .val (.ref s_SELL), .val (.long ((((p0 >>> ((2 : Int32) &&& 31)) &&& (3 : Int32)) - (1 : Int32)).toInt64)), .second, .val (.long (p1 + ((((p0 >>> ((2 : Int32) &&& 31)) &&& (3 : Int32)) - (1 : Int32)).toInt64))), .second, .val (.int (1 : Int32)), .unset] [(.int (0 : Int32))])) _
    refine XS.ifNo X4.here hx rfl (hb hby at_90) rfl (by decide +kernel) ?_
    show Steps p.tables e below (T4.setTop (mkF m 93 #[.val (.int p0), .val (.long p1), .second, .val (.long p2), .second, .val (.ref s_SELL), .val (.long ((((p0 >>> ((2 : Int32) &&& 31)) &&& (3 : Int32)) - (1 : Int32)).toInt64)), .second, .val (.long (p1 + ((((p0 >>> ((2 : Int32) &&& 31)) &&& (3 : Int32)) - (1 : Int32)).toInt64))), .second, .val (.int (1 : Int32)), .unset] [])) _
    refine XS.iconst X4.here hx rfl (hb hby at_93) ?_
    show Steps p.tables e below (T4.setTop (mkF m 94 #[.val (.int p0), .val (.long p1), .second, .val (.long p2), .second, .val (.ref s_SELL), .val (.long ((((p0 >>> ((2 : Int32) &&& 31)) &&& (3 : Int32)) - (1 : Int32)).toInt64)), .second, .val (.long (p1 + ((((p0 >>> ((2 : Int32) &&& 31)) &&& (3 : Int32)) - (1 : Int32)).toInt64))), .second, .val (.int (1 : Int32)), .unset] [(.int (1 : Int32))])) _
    refine XS.goto X4.here hx rfl (pc0 := 94) (pc' := 98) rfl (hb hby at_94) (by decide) (by decide) ?_
    show Steps p.tables e below (T4.setTop (mkF m 98 #[.val (.int p0), .val (.long p1), .second, .val (.long p2), .second, .val (.ref s_SELL), .val (.long ((((p0 >>> ((2 : Int32) &&& 31)) &&& (3 : Int32)) - (1 : Int32)).toInt64)), .second, .val (.long (p1 + ((((p0 >>> ((2 : Int32) &&& 31)) &&& (3 : Int32)) - (1 : Int32)).toInt64))), .second, .val (.int (1 : Int32)), .unset] [(.int (1 : Int32))])) _
    refine XS.istore X4.here hx rfl (hb hby at_98) rfl (l' := #[.val (.int p0), .val (.long p1), .second, .val (.long p2), .second, .val (.ref s_SELL), .val (.long ((((p0 >>> ((2 : Int32) &&& 31)) &&& (3 : Int32)) - (1 : Int32)).toInt64)), .second, .val (.long (p1 + ((((p0 >>> ((2 : Int32) &&& 31)) &&& (3 : Int32)) - (1 : Int32)).toInt64))), .second, .val (.int (1 : Int32)), .val (.int (1 : Int32))]) rfl ?_
    show Steps p.tables e below (T4.setTop (mkF m 100 #[.val (.int p0), .val (.long p1), .second, .val (.long p2), .second, .val (.ref s_SELL), .val (.long ((((p0 >>> ((2 : Int32) &&& 31)) &&& (3 : Int32)) - (1 : Int32)).toInt64)), .second, .val (.long (p1 + ((((p0 >>> ((2 : Int32) &&& 31)) &&& (3 : Int32)) - (1 : Int32)).toInt64))), .second, .val (.int (1 : Int32)), .val (.int (1 : Int32))] [])) _
    refine XS.iload X4.here hx rfl (hb hby at_100) rfl ?_
    show Steps p.tables e below (T4.setTop (mkF m 102 #[.val (.int p0), .val (.long p1), .second, .val (.long p2), .second, .val (.ref s_SELL), .val (.long ((((p0 >>> ((2 : Int32) &&& 31)) &&& (3 : Int32)) - (1 : Int32)).toInt64)), .second, .val (.long (p1 + ((((p0 >>> ((2 : Int32) &&& 31)) &&& (3 : Int32)) - (1 : Int32)).toInt64))), .second, .val (.int (1 : Int32)), .val (.int (1 : Int32))] [(.int (1 : Int32))])) _
    refine XS.iload X4.here hx rfl (hb hby at_102) rfl ?_
    show Steps p.tables e below (T4.setTop (mkF m 104 #[.val (.int p0), .val (.long p1), .second, .val (.long p2), .second, .val (.ref s_SELL), .val (.long ((((p0 >>> ((2 : Int32) &&& 31)) &&& (3 : Int32)) - (1 : Int32)).toInt64)), .second, .val (.long (p1 + ((((p0 >>> ((2 : Int32) &&& 31)) &&& (3 : Int32)) - (1 : Int32)).toInt64))), .second, .val (.int (1 : Int32)), .val (.int (1 : Int32))] [(.int (1 : Int32)), (.int (1 : Int32))])) _
    refine XS.icmpNo X4.here hx rfl (hb hby at_104) rfl (by decide +kernel) ?_
    show Steps p.tables e below (T4.setTop (mkF m 107 #[.val (.int p0), .val (.long p1), .second, .val (.long p2), .second, .val (.ref s_SELL), .val (.long ((((p0 >>> ((2 : Int32) &&& 31)) &&& (3 : Int32)) - (1 : Int32)).toInt64)), .second, .val (.long (p1 + ((((p0 >>> ((2 : Int32) &&& 31)) &&& (3 : Int32)) - (1 : Int32)).toInt64))), .second, .val (.int (1 : Int32)), .val (.int (1 : Int32))] [])) _
    refine XS.iconst X4.here hx rfl (hb hby at_107) ?_
    show Steps p.tables e below (T4.setTop (mkF m 108 #[.val (.int p0), .val (.long p1), .second, .val (.long p2), .second, .val (.ref s_SELL), .val (.long ((((p0 >>> ((2 : Int32) &&& 31)) &&& (3 : Int32)) - (1 : Int32)).toInt64)), .second, .val (.long (p1 + ((((p0 >>> ((2 : Int32) &&& 31)) &&& (3 : Int32)) - (1 : Int32)).toInt64))), .second, .val (.int (1 : Int32)), .val (.int (1 : Int32))] [(.int (1 : Int32))])) _
    refine XS.goto X4.here hx rfl (pc0 := 108) (pc' := 112) rfl (hb hby at_108) (by decide) (by decide) ?_
    show Steps p.tables e below (T4.setTop (mkF m 112 #[.val (.int p0), .val (.long p1), .second, .val (.long p2), .second, .val (.ref s_SELL), .val (.long ((((p0 >>> ((2 : Int32) &&& 31)) &&& (3 : Int32)) - (1 : Int32)).toInt64)), .second, .val (.long (p1 + ((((p0 >>> ((2 : Int32) &&& 31)) &&& (3 : Int32)) - (1 : Int32)).toInt64))), .second, .val (.int (1 : Int32)), .val (.int (1 : Int32))] [(.int (1 : Int32))])) _
    exact retN X4 hx (t := .boolean) Bd.returns (by simp) (hb hby at_112) hr
  · exact ⟨rfl, N4, e4⟩
set_option maxRecDepth 65536 in
set_option maxHeartbeats 40000000 in
theorem r18 (l : Launch) (Z : State) (a0 : Array Value) (hw : ∀ d ∈ tables_1, d.before a0 Z = true) (ws : List Jvm.Cond) (h0 : Heap) (n0 : Nat) (s_SELL : Addr) (s_BUY : Addr) (K : Ctx Z h0 s_SELL s_BUY) (p1 : Int64) (p2 : Int64) (hc : p2 < p1) :
    MetFree l (⟨"com/example/bookfence/bookfence/engine/Side", "allows", "(JJ)Z"⟩ : MethodName) (head1 (Jvm.Cond.code (⟨"com/example/bookfence/bookfence/engine/Side", "allows", "(JJ)Z"⟩ : MethodName) prog_44_method_5_code 5 (some .boolean) :: ws) ({ frames := 0, cells := 0, slots := 0, locals := 0 } : Room)) (fun a U => a = #[(.ref s_BUY), (.long p1), (.long p2)] ∧ Z.Warmed39 U.vm ∧ U.heap = h0) (fun _ _ _ _ _ => True) (fun _ U o U' => ∃ v L, o = .returned v ∧ QV (.int (1 : Int32)) h0 n0 v U'.heap L ∧ FrameEnd U o U' L ({ frames := 0, cells := 0, slots := 0, locals := 0 } : Room).cells ({ frames := 0, cells := 0, slots := 0, locals := 0 } : Room).slots) := by
  obtain ⟨S_SELL, S_BUY, ne_BUY_SELL, E_SELL, E_BUY⟩ := id K
  refine MetFree.of_bodySF (plainFor_of_name pn0) hisR ?_
  intro p e s m args below meth c s₁ Bd hml0 hP hK
  obtain ⟨rfl, hZ, hh⟩ := hP
  have hx := Bd.exec
  have hby := Bd.bytes
  have hml : c.maxLocals = 5 := hml0
  have hown : s.vm.findClass "com/example/bookfence/bookfence/engine/Side" = some m.cls := findClass_of_methodNamed Bd.named
  have X0 : Stand p l e ({ frames := 0, cells := 0, slots := 0, locals := 0 } : Room) s m #[(.ref s_BUY), (.long p1), (.long p2)] below meth c s₁ [] 0 0 := Stand.of_body Bd
  have e0 : s₁.heap = h0 := by rw [← hh, Bd.state]; rfl
  have N0 := Fr.nil n0
  have pre0 : ∀ t, Steps p.tables e below (s₁.setTop (mkF m 0 #[.val (.ref s_BUY), .val (.long p1), .second, .val (.long p2), .second] [])) t → Steps p.tables e below (s₁.setTop (entryFrame m #[(.ref s_BUY), (.long p1), (.long p2)] 5)) t := fun t k => castTop (by first | (simp [entryFrame, mkF, argsToLocals, Value.category]; done) | rfl) k
  obtain ⟨T1, X1, e1, st1⟩ := getS X0 hx hZ hown (host := "") (hw _ (List.mem_of_getElem? (i := 8) rfl)) Via.refl e0 S_BUY (g := (mkF m 1 #[.val (.ref s_BUY), .val (.long p1), .second, .val (.long p2), .second] [(.ref s_BUY)])) rfl (hb hby d0_1)
  obtain ⟨fs, hr, hrun, hended, hW, hsame⟩ := X1.leave (v := some (.int (1 : Int32))) (fun h => by rw [Bd.returns] at h; cases h)
  refine ⟨_, _, pre0 _ ?_, hrun, hended, _, _, rfl, ?_, ⟨_, rfl⟩, hW, hsame.mono (by decide) (by decide)⟩
  · show Steps p.tables e below (s₁.setTop (mkF m 0 #[.val (.ref s_BUY), .val (.long p1), .second, .val (.long p2), .second] [])) _
    refine XS.aloadN X0.here hx rfl (hb hby d0_0) rfl rfl ?_
    show Steps p.tables e below (s₁.setTop (mkF m 1 #[.val (.ref s_BUY), .val (.long p1), .second, .val (.long p2), .second] [(.ref s_BUY)])) _
    refine st1 _ ?_
    show Steps p.tables e below (T1.setTop (mkF m 4 #[.val (.ref s_BUY), .val (.long p1), .second, .val (.long p2), .second] [(.ref s_BUY), (.ref s_BUY)])) _
    refine Jvm.RoadKit.acmp (g := (mkF m 4 #[.val (.ref s_BUY), .val (.long p1), .second, .val (.long p2), .second] [(.ref s_BUY), (.ref s_BUY)])) X1 hx rfl rfl rfl (pc0 := 4) (pc' := 7) (same := true) rfl (hb hby d0_4) rfl (decide_eq_true rfl) (by decide) (by decide) ?_
    show Steps p.tables e below (T1.setTop (mkF m 7 #[.val (.ref s_BUY), .val (.long p1), .second, .val (.long p2), .second] [])) _
    refine XS.lloadN X1.here hx rfl (hb hby d0_7) rfl ?_
    show Steps p.tables e below (T1.setTop (mkF m 8 #[.val (.ref s_BUY), .val (.long p1), .second, .val (.long p2), .second] [(.long p2)])) _
    refine XS.lloadN X1.here hx rfl (hb hby d0_8) rfl ?_
    show Steps p.tables e below (T1.setTop (mkF m 9 #[.val (.ref s_BUY), .val (.long p1), .second, .val (.long p2), .second] [(.long p1), (.long p2)])) _
    refine XS.lcmp X1.here hx rfl (hb hby d0_9) rfl ?_
    show Steps p.tables e below (T1.setTop (mkF m 10 #[.val (.ref s_BUY), .val (.long p1), .second, .val (.long p2), .second] [(.int (lcmpW p2 p1))])) _
    rw [own_lc_lt hc]
    show Steps p.tables e below (T1.setTop (mkF m 10 #[.val (.ref s_BUY), .val (.long p1), .second, .val (.long p2), .second] [(.int (-1 : Int32))])) _
    refine XS.ifNo X1.here hx rfl (hb hby d0_10) rfl (by decide +kernel) ?_
    show Steps p.tables e below (T1.setTop (mkF m 13 #[.val (.ref s_BUY), .val (.long p1), .second, .val (.long p2), .second] [])) _
    refine XS.iconst X1.here hx rfl (hb hby d0_13) ?_
    show Steps p.tables e below (T1.setTop (mkF m 14 #[.val (.ref s_BUY), .val (.long p1), .second, .val (.long p2), .second] [(.int (1 : Int32))])) _
    refine XS.goto X1.here hx rfl (pc0 := 14) (pc' := 32) rfl (hb hby d0_14) (by decide) (by decide) ?_
    show Steps p.tables e below (T1.setTop (mkF m 32 #[.val (.ref s_BUY), .val (.long p1), .second, .val (.long p2), .second] [(.int (1 : Int32))])) _
    exact retN X1 hx (t := .boolean) Bd.returns (by simp) (hb hby d0_32) hr
  · exact ⟨rfl, N0, e1⟩
set_option maxRecDepth 65536 in
set_option maxHeartbeats 40000000 in
theorem r19 (l : Launch) (Z : State) (a0 : Array Value) (hw : ∀ d ∈ tables_1, d.before a0 Z = true) (ws : List Jvm.Cond) (h0 : Heap) (n0 : Nat) (s_SELL : Addr) (s_BUY : Addr) (K : Ctx Z h0 s_SELL s_BUY) (p1 : Int64) (p2 : Int64) (hc : p2 < p1) :
    MetFree l (⟨"java/lang/Math", "max", "(JJ)J"⟩ : MethodName) (head1 (Jvm.Cond.code (⟨"java/lang/Math", "max", "(JJ)J"⟩ : MethodName) jdk_29_method_66_code 4 (some .long) :: ws) ({ frames := 0, cells := 0, slots := 0, locals := 0 } : Room)) (fun a U => a = #[(.long p1), (.long p2)] ∧ Z.Warmed39 U.vm ∧ U.heap = h0) (fun _ _ _ _ _ => True) (fun _ U o U' => ∃ v L, o = .returned v ∧ QV (.long p1) h0 n0 v U'.heap L ∧ FrameEnd U o U' L ({ frames := 0, cells := 0, slots := 0, locals := 0 } : Room).cells ({ frames := 0, cells := 0, slots := 0, locals := 0 } : Room).slots) := by
  obtain ⟨S_SELL, S_BUY, ne_BUY_SELL, E_SELL, E_BUY⟩ := id K
  refine MetFree.of_bodySF (Jvm.Free.JP.mathPlain rfl (by decide +kernel)) hisR ?_
  intro p e s m args below meth c s₁ Bd hml0 hP hK
  obtain ⟨rfl, hZ, hh⟩ := hP
  have hx := Bd.exec
  have hby := Bd.bytes
  have hml : c.maxLocals = 4 := hml0
  have hown : s.vm.findClass "java/lang/Math" = some m.cls := findClass_of_methodNamed Bd.named
  have X0 : Stand p l e ({ frames := 0, cells := 0, slots := 0, locals := 0 } : Room) s m #[(.long p1), (.long p2)] below meth c s₁ [] 0 0 := Stand.of_body Bd
  have e0 : s₁.heap = h0 := by rw [← hh, Bd.state]; rfl
  have N0 := Fr.nil n0
  have pre0 : ∀ t, Steps p.tables e below (s₁.setTop (mkF m 0 #[.val (.long p1), .second, .val (.long p2), .second] [])) t → Steps p.tables e below (s₁.setTop (entryFrame m #[(.long p1), (.long p2)] 4)) t := fun t k => castTop (by first | (simp [entryFrame, mkF, argsToLocals, Value.category]; done) | rfl) k
  obtain ⟨fs, hr, hrun, hended, hW, hsame⟩ := X0.leave (v := some (.long p1)) (fun h => by rw [Bd.returns] at h; cases h)
  refine ⟨_, _, pre0 _ ?_, hrun, hended, _, _, rfl, ?_, ⟨_, rfl⟩, hW, hsame.mono (by decide) (by decide)⟩
  · show Steps p.tables e below (s₁.setTop (mkF m 0 #[.val (.long p1), .second, .val (.long p2), .second] [])) _
    refine XS.lloadN X0.here hx rfl (hb hby d2_0) rfl ?_
    show Steps p.tables e below (s₁.setTop (mkF m 1 #[.val (.long p1), .second, .val (.long p2), .second] [(.long p1)])) _
    refine XS.lloadN X0.here hx rfl (hb hby d2_1) rfl ?_
    show Steps p.tables e below (s₁.setTop (mkF m 2 #[.val (.long p1), .second, .val (.long p2), .second] [(.long p2), (.long p1)])) _
    refine XS.lcmp X0.here hx rfl (hb hby d2_2) rfl ?_
    show Steps p.tables e below (s₁.setTop (mkF m 3 #[.val (.long p1), .second, .val (.long p2), .second] [(.int (lcmpW p1 p2))])) _
    rw [own_lr_lt hc]
    show Steps p.tables e below (s₁.setTop (mkF m 3 #[.val (.long p1), .second, .val (.long p2), .second] [(.int (1 : Int32))])) _
    refine XS.ifNo X0.here hx rfl (hb hby d2_3) rfl (by decide +kernel) ?_
    show Steps p.tables e below (s₁.setTop (mkF m 6 #[.val (.long p1), .second, .val (.long p2), .second] [])) _
    refine XS.lloadN X0.here hx rfl (hb hby d2_6) rfl ?_
    show Steps p.tables e below (s₁.setTop (mkF m 7 #[.val (.long p1), .second, .val (.long p2), .second] [(.long p1)])) _
    refine XS.goto X0.here hx rfl (pc0 := 7) (pc' := 11) rfl (hb hby d2_7) (by decide) (by decide) ?_
    show Steps p.tables e below (s₁.setTop (mkF m 11 #[.val (.long p1), .second, .val (.long p2), .second] [(.long p1)])) _
    exact retOut X0 hx (i := .lreturn) Bd.returns rfl (Or.inr (Or.inl ⟨rfl, rfl, _, rfl⟩)) (hb hby d2_11) hr
  · exact ⟨rfl, N0, e0⟩
set_option maxRecDepth 65536 in
set_option maxHeartbeats 40000000 in
theorem law_k1_0_lt (l : Launch) (Z : State) (a0 : Array Value) (hw : ∀ d ∈ tables_1, d.before a0 Z = true) (ws : List Jvm.Cond) (h0 : Heap) (n0 : Nat) (s_SELL : Addr) (s_BUY : Addr) (K : Ctx Z h0 s_SELL s_BUY) (p0 : Int32) (p1 : Int64) (p2 : Int64) (ha : (p0 &&& (1 : Int32)) = (1 : Int32)) (hb1 : (p0 &&& (2 : Int32)) = (0 : Int32)) (hc : p2 < p1) :
    MetFree l x (head1 (Jvm.Cond.code x code maxLocals ret :: ws) room_1) (fun a U => a = #[(.int p0), (.long p1), (.long p2)] ∧ Z.Warmed39 U.vm ∧ U.heap = h0) (fun _ _ _ _ _ => True) (fun _ U o U' => ∃ v L, o = .returned v ∧ QV (.int (1 : Int32)) h0 n0 v U'.heap L ∧ FrameEnd U o U' L room_1.cells room_1.slots) := by
  obtain ⟨S_SELL, S_BUY, ne_BUY_SELL, E_SELL, E_BUY⟩ := id K
  refine MetFree.of_bodySF (plainFor_of_name pn3) hisR ?_
  intro p e s m args below meth c s₁ Bd hml0 hP hK
  obtain ⟨rfl, hZ, hh⟩ := hP
  have hx := Bd.exec
  have hby := Bd.bytes
  have hml : c.maxLocals = 12 := hml0
  have hown : s.vm.findClass "com/example/bookfence/bookfence/engine/SideAllowsPinLaw" = some m.cls := findClass_of_methodNamed Bd.named
  have X0 : Stand p l e room_1 s m #[(.int p0), (.long p1), (.long p2)] below meth c s₁ [] 0 0 := Stand.of_body Bd
  have e0 : s₁.heap = h0 := by rw [← hh, Bd.state]; rfl
  have N0 := Fr.nil n0
  have pre0 : ∀ t, Steps p.tables e below (s₁.setTop (mkF m 0 #[.val (.int p0), .val (.long p1), .second, .val (.long p2), .second, .unset, .unset, .unset, .unset, .unset, .unset, .unset] [])) t → Steps p.tables e below (s₁.setTop (entryFrame m #[(.int p0), (.long p1), (.long p2)] maxLocals)) t := fun t k => castTop (by first | (simp [entryFrame, mkF, argsToLocals, Value.category, maxLocals]; done) | rfl) k
  obtain ⟨T1, X1, e1, st1⟩ := getS X0 hx hZ hown (host := "") (hw _ (List.mem_of_getElem? (i := 10) rfl)) Via.refl e0 S_BUY (g := (mkF m 6 #[.val (.int p0), .val (.long p1), .second, .val (.long p2), .second, .unset, .unset, .unset, .unset, .unset, .unset, .unset] [])) rfl (hb hby at_6)
  obtain ⟨cq2, kq2, q2a, q2b, q2c⟩ := isOf hZ e1 E_BUY
  obtain ⟨_, _, ⟨T2, L2, k2, n2⟩, -, X2, ⟨Lc2, hQ2, l2, y2, z2⟩, st2⟩ := X1.virtualBack hx (y := (⟨"com/example/bookfence/bookfence/engine/Side", "allows", "(JJ)Z"⟩ : MethodName)) (z := (⟨"com/example/bookfence/bookfence/engine/Side", "allows", "(JJ)Z"⟩ : MethodName)) hown (mvT hZ (hw _ (List.mem_of_getElem? (i := 3) rfl))) (mvT hZ (hw _ (List.mem_of_getElem? (i := 4) rfl))) (notFace_of_selects (args := #[]) (mvT hZ (hw _ (List.mem_of_getElem? (i := 6) rfl)))) (mvT hZ (hw _ (List.mem_of_getElem? (i := 6) rfl))) (mvT hZ (hw _ (List.mem_of_getElem? (i := 5) rfl))) (by decide) (backOf (W := 0) (r18 l Z a0 hw [] h0 n0 s_SELL s_BUY K p1 p2 hc) hZ (hw _ (List.mem_of_getElem? (i := 7) rfl)) (hw _ (List.mem_of_getElem? (i := 1) rfl)) (by decide) (by decide)) q2a q2c (g := (mkF m 48 #[.val (.int p0), .val (.long p1), .second, .val (.long p2), .second, .val (.ref s_BUY), .val (.long ((((p0 >>> ((2 : Int32) &&& 31)) &&& (3 : Int32)) - (1 : Int32)).toInt64)), .second, .val (.long p2), .second, .unset, .unset] [(.long p2), (.long p1), (.ref s_BUY)])) rfl (by rw [hml]; rfl) (Steps.refl _) (argsL := [(.long p1), (.long p2)]) (rest := []) (lenOf pd0 rfl) rfl (by show 2 * 0 + _ ≤ _; exact Nat.le_of_eq rfl) (hb hby at_48) (fun _ _ => ⟨rfl, e1, (by decide : 0 + 0 ≤ _), (by decide : 0 + 0 ≤ _)⟩)
  dsimp only [Pt.U, Pt.locs, Pt.cells, Pt.slots] at X2 l2 y2 z2 st2 hQ2
  subst l2 y2 z2
  obtain ⟨rfl, N2q, e2⟩ := hQ2
  have N2 := Fr.app N0 N2q
  obtain ⟨T3, X3, e3, st3⟩ := getS X2 hx hZ hown (host := "") (hw _ (List.mem_of_getElem? (i := 10) rfl)) Via.refl e2 S_BUY (g := (mkF m 55 #[.val (.int p0), .val (.long p1), .second, .val (.long p2), .second, .val (.ref s_BUY), .val (.long ((((p0 >>> ((2 : Int32) &&& 31)) &&& (3 : Int32)) - (1 : Int32)).toInt64)), .second, .val (.long p2), .second, .val (.int (1 : Int32)), .unset] [(.ref s_BUY)])) rfl (hb hby at_55)
  obtain ⟨_, _, ⟨T4, L4, k4, n4⟩, -, X4, ⟨Lc4, hQ4, l4, y4, z4⟩, st4⟩ := Jvm.LawKit.callS X3 hx (y := (⟨"java/lang/Math", "max", "(JJ)J"⟩ : MethodName)) hown (mvT hZ (hw _ (List.mem_of_getElem? (i := 15) rfl))) (mvT hZ (hw _ (List.mem_of_getElem? (i := 16) rfl))) (mvT hZ (hw _ (List.mem_of_getElem? (i := 13) rfl))) (mvT hZ (hw _ (List.mem_of_getElem? (i := 17) rfl))) (by decide) (backOf (W := 0) (r19 l Z a0 hw [] h0 n0 s_SELL s_BUY K p1 p2 hc) hZ (hw _ (List.mem_of_getElem? (i := 17) rfl)) (hw _ (List.mem_of_getElem? (i := 13) rfl)) (by decide) (by decide)) (g := (mkF m 64 #[.val (.int p0), .val (.long p1), .second, .val (.long p2), .second, .val (.ref s_BUY), .val (.long ((((p0 >>> ((2 : Int32) &&& 31)) &&& (3 : Int32)) - (1 : Int32)).toInt64)), .second, .val (.long p2), .second, .val (.int (1 : Int32)), .unset] [(.long p2), (.long p1)])) rfl (by rw [hml]; rfl) (argsL := [(.long p1), (.long p2)]) (rest := []) (lenOf pd1 rfl) rfl (by show 2 * 0 + _ ≤ _; exact Nat.le_of_eq rfl) (hb hby at_64) (fun _ _ => ⟨rfl, e3, (by decide : 0 + 0 ≤ _), (by decide : 0 + 0 ≤ _)⟩)
  dsimp only [Pt.U, Pt.locs, Pt.cells, Pt.slots] at X4 l4 y4 z4 st4 hQ4
  subst l4 y4 z4
  obtain ⟨rfl, N4q, e4⟩ := hQ4
  have N4 := Fr.app N2 N4q
  obtain ⟨fs, hr, hrun, hended, hW, hsame⟩ := X4.leave (v := some (.int (1 : Int32))) (fun h => by rw [Bd.returns] at h; cases h)
  refine ⟨_, _, pre0 _ ?_, hrun, hended, _, _, rfl, ?_, ⟨_, rfl⟩, hW, hsame.mono (by decide) (by decide)⟩
  · show Steps p.tables e below (s₁.setTop (mkF m 0 #[.val (.int p0), .val (.long p1), .second, .val (.long p2), .second, .unset, .unset, .unset, .unset, .unset, .unset, .unset] [])) _
    refine XS.iloadN X0.here hx rfl (hb hby at_0) rfl ?_
    show Steps p.tables e below (s₁.setTop (mkF m 1 #[.val (.int p0), .val (.long p1), .second, .val (.long p2), .second, .unset, .unset, .unset, .unset, .unset, .unset, .unset] [(.int p0)])) _
    refine XS.iconst X0.here hx rfl (hb hby at_1) ?_
    show Steps p.tables e below (s₁.setTop (mkF m 2 #[.val (.int p0), .val (.long p1), .second, .val (.long p2), .second, .unset, .unset, .unset, .unset, .unset, .unset, .unset] [(.int (1 : Int32)), (.int p0)])) _
    refine XS.iand X0.here hx rfl (hb hby at_2) rfl ?_
    show Steps p.tables e below (s₁.setTop (mkF m 3 #[.val (.int p0), .val (.long p1), .second, .val (.long p2), .second, .unset, .unset, .unset, .unset, .unset, .unset, .unset] [(.int (p0 &&& (1 : Int32)))])) _
    rw [ha]
    show Steps p.tables e below (s₁.setTop (mkF m 3 #[.val (.int p0), .val (.long p1), .second, .val (.long p2), .second, .unset, .unset, .unset, .unset, .unset, .unset, .unset] [(.int (1 : Int32))])) _
    refine XS.ifNo X0.here hx rfl (hb hby at_3) rfl (by decide +kernel) ?_
    show Steps p.tables e below (s₁.setTop (mkF m 6 #[.val (.int p0), .val (.long p1), .second, .val (.long p2), .second, .unset, .unset, .unset, .unset, .unset, .unset, .unset] [])) _
    refine st1 _ ?_
    show Steps p.tables e below (T1.setTop (mkF m 9 #[.val (.int p0), .val (.long p1), .second, .val (.long p2), .second, .unset, .unset, .unset, .unset, .unset, .unset, .unset] [(.ref s_BUY)])) _
    refine XS.goto X1.here hx rfl (pc0 := 9) (pc' := 15) rfl (hb hby at_9) (by decide) (by decide) ?_
    show Steps p.tables e below (T1.setTop (mkF m 15 #[.val (.int p0), .val (.long p1), .second, .val (.long p2), .second, .unset, .unset, .unset, .unset, .unset, .unset, .unset] [(.ref s_BUY)])) _
    refine XS.astore X1.here hx rfl (hb hby at_15) rfl rfl (l' := #[.val (.int p0), .val (.long p1), .second, .val (.long p2), .second, .val (.ref s_BUY), .unset, .unset, .unset, .unset, .unset, .unset]) rfl ?_
    show Steps p.tables e below (T1.setTop (mkF m 17 #[.val (.int p0), .val (.long p1), .second, .val (.long p2), .second, .val (.ref s_BUY), .unset, .unset, .unset, .unset, .unset, .unset] [])) _
    refine XS.iloadN X1.here hx rfl (hb hby at_17) rfl ?_
    show Steps p.tables e below (T1.setTop (mkF m 18 #[.val (.int p0), .val (.long p1), .second, .val (.long p2), .second, .val (.ref s_BUY), .unset, .unset, .unset, .unset, .unset, .unset] [(.int p0)])) _
    refine XS.iconst X1.here hx rfl (hb hby at_18) ?_
    show Steps p.tables e below (T1.setTop (mkF m 19 #[.val (.int p0), .val (.long p1), .second, .val (.long p2), .second, .val (.ref s_BUY), .unset, .unset, .unset, .unset, .unset, .unset] [(.int (2 : Int32)), (.int p0)])) _
    refine XS.ishr X1.here hx rfl (hb hby at_19) rfl ?_
    show Steps p.tables e below (T1.setTop (mkF m 20 #[.val (.int p0), .val (.long p1), .second, .val (.long p2), .second, .val (.ref s_BUY), .unset, .unset, .unset, .unset, .unset, .unset] [(.int (p0 >>> ((2 : Int32) &&& 31)))])) _
    refine XS.iconst X1.here hx rfl (hb hby at_20) ?_
    show Steps p.tables e below (T1.setTop (mkF m 21 #[.val (.int p0), .val (.long p1), .second, .val (.long p2), .second, .val (.ref s_BUY), .unset, .unset, .unset, .unset, .unset, .unset] [(.int (3 : Int32)), (.int (p0 >>> ((2 : Int32) &&& 31)))])) _
    refine XS.iand X1.here hx rfl (hb hby at_21) rfl ?_
    show Steps p.tables e below (T1.setTop (mkF m 22 #[.val (.int p0), .val (.long p1), .second, .val (.long p2), .second, .val (.ref s_BUY), .unset, .unset, .unset, .unset, .unset, .unset] [(.int ((p0 >>> ((2 : Int32) &&& 31)) &&& (3 : Int32)))])) _
    refine XS.iconst X1.here hx rfl (hb hby at_22) ?_
    show Steps p.tables e below (T1.setTop (mkF m 23 #[.val (.int p0), .val (.long p1), .second, .val (.long p2), .second, .val (.ref s_BUY), .unset, .unset, .unset, .unset, .unset, .unset] [(.int (1 : Int32)), (.int ((p0 >>> ((2 : Int32) &&& 31)) &&& (3 : Int32)))])) _
    refine XS.isub X1.here hx rfl (hb hby at_23) rfl ?_
    show Steps p.tables e below (T1.setTop (mkF m 24 #[.val (.int p0), .val (.long p1), .second, .val (.long p2), .second, .val (.ref s_BUY), .unset, .unset, .unset, .unset, .unset, .unset] [(.int (((p0 >>> ((2 : Int32) &&& 31)) &&& (3 : Int32)) - (1 : Int32)))])) _
    refine XS.i2l X1.here hx rfl (hb hby at_24) rfl ?_
    show Steps p.tables e below (T1.setTop (mkF m 25 #[.val (.int p0), .val (.long p1), .second, .val (.long p2), .second, .val (.ref s_BUY), .unset, .unset, .unset, .unset, .unset, .unset] [(.long ((((p0 >>> ((2 : Int32) &&& 31)) &&& (3 : Int32)) - (1 : Int32)).toInt64))])) _
    refine XS.lstore X1.here hx rfl (hb hby at_25) rfl (l' := #[.val (.int p0), .val (.long p1), .second, .val (.long p2), .second, .val (.ref s_BUY), .val (.long ((((p0 >>> ((2 : Int32) &&& 31)) &&& (3 : Int32)) - (1 : Int32)).toInt64)), .second, .unset, .unset, .unset, .unset]) rfl ?_
    show Steps p.tables e below (T1.setTop (mkF m 27 #[.val (.int p0), .val (.long p1), .second, .val (.long p2), .second, .val (.ref s_BUY), .val (.long ((((p0 >>> ((2 : Int32) &&& 31)) &&& (3 : Int32)) - (1 : Int32)).toInt64)), .second, .unset, .unset, .unset, .unset] [])) _
    refine XS.iloadN X1.here hx rfl (hb hby at_27) rfl ?_
    show Steps p.tables e below (T1.setTop (mkF m 28 #[.val (.int p0), .val (.long p1), .second, .val (.long p2), .second, .val (.ref s_BUY), .val (.long ((((p0 >>> ((2 : Int32) &&& 31)) &&& (3 : Int32)) - (1 : Int32)).toInt64)), .second, .unset, .unset, .unset, .unset] [(.int p0)])) _
    refine XS.iconst X1.here hx rfl (hb hby at_28) ?_
    show Steps p.tables e below (T1.setTop (mkF m 29 #[.val (.int p0), .val (.long p1), .second, .val (.long p2), .second, .val (.ref s_BUY), .val (.long ((((p0 >>> ((2 : Int32) &&& 31)) &&& (3 : Int32)) - (1 : Int32)).toInt64)), .second, .unset, .unset, .unset, .unset] [(.int (2 : Int32)), (.int p0)])) _
    refine XS.iand X1.here hx rfl (hb hby at_29) rfl ?_
    show Steps p.tables e below (T1.setTop (mkF m 30 #[.val (.int p0), .val (.long p1), .second, .val (.long p2), .second, .val (.ref s_BUY), .val (.long ((((p0 >>> ((2 : Int32) &&& 31)) &&& (3 : Int32)) - (1 : Int32)).toInt64)), .second, .unset, .unset, .unset, .unset] [(.int (p0 &&& (2 : Int32)))])) _
    rw [hb1]
    show Steps p.tables e below (T1.setTop (mkF m 30 #[.val (.int p0), .val (.long p1), .second, .val (.long p2), .second, .val (.ref s_BUY), .val (.long ((((p0 >>> ((2 : Int32) &&& 31)) &&& (3 : Int32)) - (1 : Int32)).toInt64)), .second, .unset, .unset, .unset, .unset] [(.int (0 : Int32))])) _
    refine XS.ifYes X1.here hx rfl (pc0 := 30) (pc' := 40) rfl (hb hby at_30) rfl (by decide +kernel) (by decide) (by decide) ?_
    show Steps p.tables e below (T1.setTop (mkF m 40 #[.val (.int p0), .val (.long p1), .second, .val (.long p2), .second, .val (.ref s_BUY), .val (.long ((((p0 >>> ((2 : Int32) &&& 31)) &&& (3 : Int32)) - (1 : Int32)).toInt64)), .second, .unset, .unset, .unset, .unset] [])) _
    refine XS.lloadN X1.here hx rfl (hb hby at_40) rfl ?_
    show Steps p.tables e below (T1.setTop (mkF m 41 #[.val (.int p0), .val (.long p1), .second, .val (.long p2), .second, .val (.ref s_BUY), .val (.long ((((p0 >>> ((2 : Int32) &&& 31)) &&& (3 : Int32)) - (1 : Int32)).toInt64)), .second, .unset, .unset, .unset, .unset] [(.long p2)])) _
    refine XS.lstore X1.here hx rfl (hb hby at_41) rfl (l' := #[.val (.int p0), .val (.long p1), .second, .val (.long p2), .second, .val (.ref s_BUY), .val (.long ((((p0 >>> ((2 : Int32) &&& 31)) &&& (3 : Int32)) - (1 : Int32)).toInt64)), .second, .val (.long p2), .second, .unset, .unset]) rfl ?_
    show Steps p.tables e below (T1.setTop (mkF m 43 #[.val (.int p0), .val (.long p1), .second, .val (.long p2), .second, .val (.ref s_BUY), .val (.long ((((p0 >>> ((2 : Int32) &&& 31)) &&& (3 : Int32)) - (1 : Int32)).toInt64)), .second, .val (.long p2), .second, .unset, .unset] [])) _
    refine XS.aload X1.here hx rfl (hb hby at_43) rfl rfl ?_
    show Steps p.tables e below (T1.setTop (mkF m 45 #[.val (.int p0), .val (.long p1), .second, .val (.long p2), .second, .val (.ref s_BUY), .val (.long ((((p0 >>> ((2 : Int32) &&& 31)) &&& (3 : Int32)) - (1 : Int32)).toInt64)), .second, .val (.long p2), .second, .unset, .unset] [(.ref s_BUY)])) _
    refine XS.lloadN X1.here hx rfl (hb hby at_45) rfl ?_
    show Steps p.tables e below (T1.setTop (mkF m 46 #[.val (.int p0), .val (.long p1), .second, .val (.long p2), .second, .val (.ref s_BUY), .val (.long ((((p0 >>> ((2 : Int32) &&& 31)) &&& (3 : Int32)) - (1 : Int32)).toInt64)), .second, .val (.long p2), .second, .unset, .unset] [(.long p1), (.ref s_BUY)])) _
    refine XS.lload X1.here hx rfl (hb hby at_46) rfl ?_
    show Steps p.tables e below (T1.setTop (mkF m 48 #[.val (.int p0), .val (.long p1), .second, .val (.long p2), .second, .val (.ref s_BUY), .val (.long ((((p0 >>> ((2 : Int32) &&& 31)) &&& (3 : Int32)) - (1 : Int32)).toInt64)), .second, .val (.long p2), .second, .unset, .unset] [(.long p2), (.long p1), (.ref s_BUY)])) _
    refine st2.trans ?_
    show Steps p.tables e below (T2.setTop (mkF m 51 #[.val (.int p0), .val (.long p1), .second, .val (.long p2), .second, .val (.ref s_BUY), .val (.long ((((p0 >>> ((2 : Int32) &&& 31)) &&& (3 : Int32)) - (1 : Int32)).toInt64)), .second, .val (.long p2), .second, .unset, .unset] [(.int (1 : Int32))])) _
    refine XS.istore X2.here hx rfl (hb hby at_51) rfl (l' := #[.val (.int p0), .val (.long p1), .second, .val (.long p2), .second, .val (.ref s_BUY), .val (.long ((((p0 >>> ((2 : Int32) &&& 31)) &&& (3 : Int32)) - (1 : Int32)).toInt64)), .second, .val (.long p2), .second, .val (.int (1 : Int32)), .unset]) rfl ?_
    show Steps p.tables e below (T2.setTop (mkF m 53 #[.val (.int p0), .val (.long p1), .second, .val (.long p2), .second, .val (.ref s_BUY), .val (.long ((((p0 >>> ((2 : Int32) &&& 31)) &&& (3 : Int32)) - (1 : Int32)).toInt64)), .second, .val (.long p2), .second, .val (.int (1 : Int32)), .unset] [])) _
    refine XS.aload X2.here hx rfl (hb hby at_53) rfl rfl ?_
    show Steps p.tables e below (T2.setTop (mkF m 55 #[.val (.int p0), .val (.long p1), .second, .val (.long p2), .second, .val (.ref s_BUY), .val (.long ((((p0 >>> ((2 : Int32) &&& 31)) &&& (3 : Int32)) - (1 : Int32)).toInt64)), .second, .val (.long p2), .second, .val (.int (1 : Int32)), .unset] [(.ref s_BUY)])) _
    refine st3 _ ?_
    show Steps p.tables e below (T3.setTop (mkF m 58 #[.val (.int p0), .val (.long p1), .second, .val (.long p2), .second, .val (.ref s_BUY), .val (.long ((((p0 >>> ((2 : Int32) &&& 31)) &&& (3 : Int32)) - (1 : Int32)).toInt64)), .second, .val (.long p2), .second, .val (.int (1 : Int32)), .unset] [(.ref s_BUY), (.ref s_BUY)])) _
    refine Jvm.RoadKit.acmp (g := (mkF m 58 #[.val (.int p0), .val (.long p1), .second, .val (.long p2), .second, .val (.ref s_BUY), .val (.long ((((p0 >>> ((2 : Int32) &&& 31)) &&& (3 : Int32)) - (1 : Int32)).toInt64)), .second, .val (.long p2), .second, .val (.int (1 : Int32)), .unset] [(.ref s_BUY), (.ref s_BUY)])) X3 hx rfl rfl rfl (pc0 := 58) (pc' := 61) (same := true) rfl (hb hby at_58) rfl (decide_eq_true rfl) (by decide) (by decide) ?_
    show Steps p.tables e below (T3.setTop (mkF m 61 #[.val (.int p0), .val (.long p1), .second, .val (.long p2), .second, .val (.ref s_BUY), .val (.long ((((p0 >>> ((2 : Int32) &&& 31)) &&& (3 : Int32)) - (1 : Int32)).toInt64)), .second, .val (.long p2), .second, .val (.int (1 : Int32)), .unset] [])) _
    refine XS.lloadN X3.here hx rfl (hb hby at_61) rfl ?_
    show Steps p.tables e below (T3.setTop (mkF m 62 #[.val (.int p0), .val (.long p1), .second, .val (.long p2), .second, .val (.ref s_BUY), .val (.long ((((p0 >>> ((2 : Int32) &&& 31)) &&& (3 : Int32)) - (1 : Int32)).toInt64)), .second, .val (.long p2), .second, .val (.int (1 : Int32)), .unset] [(.long p1)])) _
    refine XS.lload X3.here hx rfl (hb hby at_62) rfl ?_
    show Steps p.tables e below (T3.setTop (mkF m 64 #[.val (.int p0), .val (.long p1), .second, .val (.long p2), .second, .val (.ref s_BUY), .val (.long ((((p0 >>> ((2 : Int32) &&& 31)) &&& (3 : Int32)) - (1 : Int32)).toInt64)), .second, .val (.long p2), .second, .val (.int (1 : Int32)), .unset] [(.long p2), (.long p1)])) _
    refine st4 _ ?_
    show Steps p.tables e below (T4.setTop (mkF m 67 #[.val (.int p0), .val (.long p1), .second, .val (.long p2), .second, .val (.ref s_BUY), .val (.long ((((p0 >>> ((2 : Int32) &&& 31)) &&& (3 : Int32)) - (1 : Int32)).toInt64)), .second, .val (.long p2), .second, .val (.int (1 : Int32)), .unset] [(.long p1)])) _
    refine XS.lloadN X4.here hx rfl (hb hby at_67) rfl ?_
    show Steps p.tables e below (T4.setTop (mkF m 68 #[.val (.int p0), .val (.long p1), .second, .val (.long p2), .second, .val (.ref s_BUY), .val (.long ((((p0 >>> ((2 : Int32) &&& 31)) &&& (3 : Int32)) - (1 : Int32)).toInt64)), .second, .val (.long p2), .second, .val (.int (1 : Int32)), .unset] [(.long p1), (.long p1)])) _
    refine XS.lcmp X4.here hx rfl (hb hby at_68) rfl ?_
    show Steps p.tables e below (T4.setTop (mkF m 69 #[.val (.int p0), .val (.long p1), .second, .val (.long p2), .second, .val (.ref s_BUY), .val (.long ((((p0 >>> ((2 : Int32) &&& 31)) &&& (3 : Int32)) - (1 : Int32)).toInt64)), .second, .val (.long p2), .second, .val (.int (1 : Int32)), .unset] [(.int (lcmpW p1 p1))])) _
    rw [own_lc_eq (rfl : p1 = p1)]
    show Steps p.tables e below (T4.setTop (mkF m 69 #[.val (.int p0), .val (.long p1), .second, .val (.long p2), .second, .val (.ref s_BUY), .val (.long ((((p0 >>> ((2 : Int32) &&& 31)) &&& (3 : Int32)) - (1 : Int32)).toInt64)), .second, .val (.long p2), .second, .val (.int (1 : Int32)), .unset] [(.int (0 : Int32))])) _
    refine XS.ifNo X4.here hx rfl (hb hby at_69) rfl (by decide +kernel) ?_
    show Steps p.tables e below (T4.setTop (mkF m 72 #[.val (.int p0), .val (.long p1), .second, .val (.long p2), .second, .val (.ref s_BUY), .val (.long ((((p0 >>> ((2 : Int32) &&& 31)) &&& (3 : Int32)) - (1 : Int32)).toInt64)), .second, .val (.long p2), .second, .val (.int (1 : Int32)), .unset] [])) _
    refine XS.iconst X4.here hx rfl (hb hby at_72) ?_
    show Steps p.tables e below (T4.setTop (mkF m 73 #[.val (.int p0), .val (.long p1), .second, .val (.long p2), .second, .val (.ref s_BUY), .val (.long ((((p0 >>> ((2 : Int32) &&& 31)) &&& (3 : Int32)) - (1 : Int32)).toInt64)), .second, .val (.long p2), .second, .val (.int (1 : Int32)), .unset] [(.int (1 : Int32))])) _
    refine XS.goto X4.here hx rfl (pc0 := 73) (pc' := 77) rfl (hb hby at_73) (by decide) (by decide) ?_
    show Steps p.tables e below (T4.setTop (mkF m 77 #[.val (.int p0), .val (.long p1), .second, .val (.long p2), .second, .val (.ref s_BUY), .val (.long ((((p0 >>> ((2 : Int32) &&& 31)) &&& (3 : Int32)) - (1 : Int32)).toInt64)), .second, .val (.long p2), .second, .val (.int (1 : Int32)), .unset] [(.int (1 : Int32))])) _
    refine XS.istore X4.here hx rfl (hb hby at_77) rfl (l' := #[.val (.int p0), .val (.long p1), .second, .val (.long p2), .second, .val (.ref s_BUY), .val (.long ((((p0 >>> ((2 : Int32) &&& 31)) &&& (3 : Int32)) - (1 : Int32)).toInt64)), .second, .val (.long p2), .second, .val (.int (1 : Int32)), .val (.int (1 : Int32))]) rfl ?_
    show Steps p.tables e below (T4.setTop (mkF m 79 #[.val (.int p0), .val (.long p1), .second, .val (.long p2), .second, .val (.ref s_BUY), .val (.long ((((p0 >>> ((2 : Int32) &&& 31)) &&& (3 : Int32)) - (1 : Int32)).toInt64)), .second, .val (.long p2), .second, .val (.int (1 : Int32)), .val (.int (1 : Int32))] [])) _
    refine XS.goto X4.here hx rfl (pc0 := 79) (pc' := 100) rfl (hb hby at_79) (by decide) (by decide) ?_
    show Steps p.tables e below (T4.setTop (mkF m 100 #[.val (.int p0), .val (.long p1), .second, .val (.long p2), .second, .val (.ref s_BUY), .val (.long ((((p0 >>> ((2 : Int32) &&& 31)) &&& (3 : Int32)) - (1 : Int32)).toInt64)), .second, .val (.long p2), .second, .val (.int (1 : Int32)), .val (.int (1 : Int32))] [])) _
    refine XS.iload X4.here hx rfl (hb hby at_100) rfl ?_
    show Steps p.tables e below (T4.setTop (mkF m 102 #[.val (.int p0), .val (.long p1), .second, .val (.long p2), .second, .val (.ref s_BUY), .val (.long ((((p0 >>> ((2 : Int32) &&& 31)) &&& (3 : Int32)) - (1 : Int32)).toInt64)), .second, .val (.long p2), .second, .val (.int (1 : Int32)), .val (.int (1 : Int32))] [(.int (1 : Int32))])) _
    refine XS.iload X4.here hx rfl (hb hby at_102) rfl ?_
    show Steps p.tables e below (T4.setTop (mkF m 104 #[.val (.int p0), .val (.long p1), .second, .val (.long p2), .second, .val (.ref s_BUY), .val (.long ((((p0 >>> ((2 : Int32) &&& 31)) &&& (3 : Int32)) - (1 : Int32)).toInt64)), .second, .val (.long p2), .second, .val (.int (1 : Int32)), .val (.int (1 : Int32))] [(.int (1 : Int32)), (.int (1 : Int32))])) _
    refine XS.icmpNo X4.here hx rfl (hb hby at_104) rfl (by decide +kernel) ?_
    show Steps p.tables e below (T4.setTop (mkF m 107 #[.val (.int p0), .val (.long p1), .second, .val (.long p2), .second, .val (.ref s_BUY), .val (.long ((((p0 >>> ((2 : Int32) &&& 31)) &&& (3 : Int32)) - (1 : Int32)).toInt64)), .second, .val (.long p2), .second, .val (.int (1 : Int32)), .val (.int (1 : Int32))] [])) _
    refine XS.iconst X4.here hx rfl (hb hby at_107) ?_
    show Steps p.tables e below (T4.setTop (mkF m 108 #[.val (.int p0), .val (.long p1), .second, .val (.long p2), .second, .val (.ref s_BUY), .val (.long ((((p0 >>> ((2 : Int32) &&& 31)) &&& (3 : Int32)) - (1 : Int32)).toInt64)), .second, .val (.long p2), .second, .val (.int (1 : Int32)), .val (.int (1 : Int32))] [(.int (1 : Int32))])) _
    refine XS.goto X4.here hx rfl (pc0 := 108) (pc' := 112) rfl (hb hby at_108) (by decide) (by decide) ?_
    show Steps p.tables e below (T4.setTop (mkF m 112 #[.val (.int p0), .val (.long p1), .second, .val (.long p2), .second, .val (.ref s_BUY), .val (.long ((((p0 >>> ((2 : Int32) &&& 31)) &&& (3 : Int32)) - (1 : Int32)).toInt64)), .second, .val (.long p2), .second, .val (.int (1 : Int32)), .val (.int (1 : Int32))] [(.int (1 : Int32))])) _
    exact retN X4 hx (t := .boolean) Bd.returns (by simp) (hb hby at_112) hr
  · exact ⟨rfl, N4, e4⟩
set_option maxRecDepth 65536 in
set_option maxHeartbeats 40000000 in
theorem r21 (l : Launch) (Z : State) (a0 : Array Value) (hw : ∀ d ∈ tables_1, d.before a0 Z = true) (ws : List Jvm.Cond) (h0 : Heap) (n0 : Nat) (s_SELL : Addr) (s_BUY : Addr) (K : Ctx Z h0 s_SELL s_BUY) (p1 : Int64) (p2 : Int64) (hc : p2 = p1) :
    MetFree l (⟨"com/example/bookfence/bookfence/engine/Side", "allows", "(JJ)Z"⟩ : MethodName) (head1 (Jvm.Cond.code (⟨"com/example/bookfence/bookfence/engine/Side", "allows", "(JJ)Z"⟩ : MethodName) prog_44_method_5_code 5 (some .boolean) :: ws) ({ frames := 0, cells := 0, slots := 0, locals := 0 } : Room)) (fun a U => a = #[(.ref s_BUY), (.long p1), (.long p2)] ∧ Z.Warmed39 U.vm ∧ U.heap = h0) (fun _ _ _ _ _ => True) (fun _ U o U' => ∃ v L, o = .returned v ∧ QV (.int (1 : Int32)) h0 n0 v U'.heap L ∧ FrameEnd U o U' L ({ frames := 0, cells := 0, slots := 0, locals := 0 } : Room).cells ({ frames := 0, cells := 0, slots := 0, locals := 0 } : Room).slots) := by
  obtain ⟨S_SELL, S_BUY, ne_BUY_SELL, E_SELL, E_BUY⟩ := id K
  refine MetFree.of_bodySF (plainFor_of_name pn0) hisR ?_
  intro p e s m args below meth c s₁ Bd hml0 hP hK
  obtain ⟨rfl, hZ, hh⟩ := hP
  have hx := Bd.exec
  have hby := Bd.bytes
  have hml : c.maxLocals = 5 := hml0
  have hown : s.vm.findClass "com/example/bookfence/bookfence/engine/Side" = some m.cls := findClass_of_methodNamed Bd.named
  have X0 : Stand p l e ({ frames := 0, cells := 0, slots := 0, locals := 0 } : Room) s m #[(.ref s_BUY), (.long p1), (.long p2)] below meth c s₁ [] 0 0 := Stand.of_body Bd
  have e0 : s₁.heap = h0 := by rw [← hh, Bd.state]; rfl
  have N0 := Fr.nil n0
  have pre0 : ∀ t, Steps p.tables e below (s₁.setTop (mkF m 0 #[.val (.ref s_BUY), .val (.long p1), .second, .val (.long p2), .second] [])) t → Steps p.tables e below (s₁.setTop (entryFrame m #[(.ref s_BUY), (.long p1), (.long p2)] 5)) t := fun t k => castTop (by first | (simp [entryFrame, mkF, argsToLocals, Value.category]; done) | rfl) k
  obtain ⟨T1, X1, e1, st1⟩ := getS X0 hx hZ hown (host := "") (hw _ (List.mem_of_getElem? (i := 8) rfl)) Via.refl e0 S_BUY (g := (mkF m 1 #[.val (.ref s_BUY), .val (.long p1), .second, .val (.long p2), .second] [(.ref s_BUY)])) rfl (hb hby d0_1)
  obtain ⟨fs, hr, hrun, hended, hW, hsame⟩ := X1.leave (v := some (.int (1 : Int32))) (fun h => by rw [Bd.returns] at h; cases h)
  refine ⟨_, _, pre0 _ ?_, hrun, hended, _, _, rfl, ?_, ⟨_, rfl⟩, hW, hsame.mono (by decide) (by decide)⟩
  · show Steps p.tables e below (s₁.setTop (mkF m 0 #[.val (.ref s_BUY), .val (.long p1), .second, .val (.long p2), .second] [])) _
    refine XS.aloadN X0.here hx rfl (hb hby d0_0) rfl rfl ?_
    show Steps p.tables e below (s₁.setTop (mkF m 1 #[.val (.ref s_BUY), .val (.long p1), .second, .val (.long p2), .second] [(.ref s_BUY)])) _
    refine st1 _ ?_
    show Steps p.tables e below (T1.setTop (mkF m 4 #[.val (.ref s_BUY), .val (.long p1), .second, .val (.long p2), .second] [(.ref s_BUY), (.ref s_BUY)])) _
    refine Jvm.RoadKit.acmp (g := (mkF m 4 #[.val (.ref s_BUY), .val (.long p1), .second, .val (.long p2), .second] [(.ref s_BUY), (.ref s_BUY)])) X1 hx rfl rfl rfl (pc0 := 4) (pc' := 7) (same := true) rfl (hb hby d0_4) rfl (decide_eq_true rfl) (by decide) (by decide) ?_
    show Steps p.tables e below (T1.setTop (mkF m 7 #[.val (.ref s_BUY), .val (.long p1), .second, .val (.long p2), .second] [])) _
    refine XS.lloadN X1.here hx rfl (hb hby d0_7) rfl ?_
    show Steps p.tables e below (T1.setTop (mkF m 8 #[.val (.ref s_BUY), .val (.long p1), .second, .val (.long p2), .second] [(.long p2)])) _
    refine XS.lloadN X1.here hx rfl (hb hby d0_8) rfl ?_
    show Steps p.tables e below (T1.setTop (mkF m 9 #[.val (.ref s_BUY), .val (.long p1), .second, .val (.long p2), .second] [(.long p1), (.long p2)])) _
    refine XS.lcmp X1.here hx rfl (hb hby d0_9) rfl ?_
    show Steps p.tables e below (T1.setTop (mkF m 10 #[.val (.ref s_BUY), .val (.long p1), .second, .val (.long p2), .second] [(.int (lcmpW p2 p1))])) _
    rw [own_lc_eq hc]
    show Steps p.tables e below (T1.setTop (mkF m 10 #[.val (.ref s_BUY), .val (.long p1), .second, .val (.long p2), .second] [(.int (0 : Int32))])) _
    refine XS.ifNo X1.here hx rfl (hb hby d0_10) rfl (by decide +kernel) ?_
    show Steps p.tables e below (T1.setTop (mkF m 13 #[.val (.ref s_BUY), .val (.long p1), .second, .val (.long p2), .second] [])) _
    refine XS.iconst X1.here hx rfl (hb hby d0_13) ?_
    show Steps p.tables e below (T1.setTop (mkF m 14 #[.val (.ref s_BUY), .val (.long p1), .second, .val (.long p2), .second] [(.int (1 : Int32))])) _
    refine XS.goto X1.here hx rfl (pc0 := 14) (pc' := 32) rfl (hb hby d0_14) (by decide) (by decide) ?_
    show Steps p.tables e below (T1.setTop (mkF m 32 #[.val (.ref s_BUY), .val (.long p1), .second, .val (.long p2), .second] [(.int (1 : Int32))])) _
    exact retN X1 hx (t := .boolean) Bd.returns (by simp) (hb hby d0_32) hr
  · exact ⟨rfl, N0, e1⟩
set_option maxRecDepth 65536 in
set_option maxHeartbeats 40000000 in
theorem r22 (l : Launch) (Z : State) (a0 : Array Value) (hw : ∀ d ∈ tables_1, d.before a0 Z = true) (ws : List Jvm.Cond) (h0 : Heap) (n0 : Nat) (s_SELL : Addr) (s_BUY : Addr) (K : Ctx Z h0 s_SELL s_BUY) (p1 : Int64) (p2 : Int64) (hc : p2 = p1) :
    MetFree l (⟨"java/lang/Math", "max", "(JJ)J"⟩ : MethodName) (head1 (Jvm.Cond.code (⟨"java/lang/Math", "max", "(JJ)J"⟩ : MethodName) jdk_29_method_66_code 4 (some .long) :: ws) ({ frames := 0, cells := 0, slots := 0, locals := 0 } : Room)) (fun a U => a = #[(.long p1), (.long p2)] ∧ Z.Warmed39 U.vm ∧ U.heap = h0) (fun _ _ _ _ _ => True) (fun _ U o U' => ∃ v L, o = .returned v ∧ QV (.long p1) h0 n0 v U'.heap L ∧ FrameEnd U o U' L ({ frames := 0, cells := 0, slots := 0, locals := 0 } : Room).cells ({ frames := 0, cells := 0, slots := 0, locals := 0 } : Room).slots) := by
  obtain ⟨S_SELL, S_BUY, ne_BUY_SELL, E_SELL, E_BUY⟩ := id K
  refine MetFree.of_bodySF (Jvm.Free.JP.mathPlain rfl (by decide +kernel)) hisR ?_
  intro p e s m args below meth c s₁ Bd hml0 hP hK
  obtain ⟨rfl, hZ, hh⟩ := hP
  have hx := Bd.exec
  have hby := Bd.bytes
  have hml : c.maxLocals = 4 := hml0
  have hown : s.vm.findClass "java/lang/Math" = some m.cls := findClass_of_methodNamed Bd.named
  have X0 : Stand p l e ({ frames := 0, cells := 0, slots := 0, locals := 0 } : Room) s m #[(.long p1), (.long p2)] below meth c s₁ [] 0 0 := Stand.of_body Bd
  have e0 : s₁.heap = h0 := by rw [← hh, Bd.state]; rfl
  have N0 := Fr.nil n0
  have pre0 : ∀ t, Steps p.tables e below (s₁.setTop (mkF m 0 #[.val (.long p1), .second, .val (.long p2), .second] [])) t → Steps p.tables e below (s₁.setTop (entryFrame m #[(.long p1), (.long p2)] 4)) t := fun t k => castTop (by first | (simp [entryFrame, mkF, argsToLocals, Value.category]; done) | rfl) k
  obtain ⟨fs, hr, hrun, hended, hW, hsame⟩ := X0.leave (v := some (.long p1)) (fun h => by rw [Bd.returns] at h; cases h)
  refine ⟨_, _, pre0 _ ?_, hrun, hended, _, _, rfl, ?_, ⟨_, rfl⟩, hW, hsame.mono (by decide) (by decide)⟩
  · show Steps p.tables e below (s₁.setTop (mkF m 0 #[.val (.long p1), .second, .val (.long p2), .second] [])) _
    refine XS.lloadN X0.here hx rfl (hb hby d2_0) rfl ?_
    show Steps p.tables e below (s₁.setTop (mkF m 1 #[.val (.long p1), .second, .val (.long p2), .second] [(.long p1)])) _
    refine XS.lloadN X0.here hx rfl (hb hby d2_1) rfl ?_
    show Steps p.tables e below (s₁.setTop (mkF m 2 #[.val (.long p1), .second, .val (.long p2), .second] [(.long p2), (.long p1)])) _
    refine XS.lcmp X0.here hx rfl (hb hby d2_2) rfl ?_
    show Steps p.tables e below (s₁.setTop (mkF m 3 #[.val (.long p1), .second, .val (.long p2), .second] [(.int (lcmpW p1 p2))])) _
    rw [own_lr_eq hc]
    show Steps p.tables e below (s₁.setTop (mkF m 3 #[.val (.long p1), .second, .val (.long p2), .second] [(.int (0 : Int32))])) _
    refine XS.ifNo X0.here hx rfl (hb hby d2_3) rfl (by decide +kernel) ?_
    show Steps p.tables e below (s₁.setTop (mkF m 6 #[.val (.long p1), .second, .val (.long p2), .second] [])) _
    refine XS.lloadN X0.here hx rfl (hb hby d2_6) rfl ?_
    show Steps p.tables e below (s₁.setTop (mkF m 7 #[.val (.long p1), .second, .val (.long p2), .second] [(.long p1)])) _
    refine XS.goto X0.here hx rfl (pc0 := 7) (pc' := 11) rfl (hb hby d2_7) (by decide) (by decide) ?_
    show Steps p.tables e below (s₁.setTop (mkF m 11 #[.val (.long p1), .second, .val (.long p2), .second] [(.long p1)])) _
    exact retOut X0 hx (i := .lreturn) Bd.returns rfl (Or.inr (Or.inl ⟨rfl, rfl, _, rfl⟩)) (hb hby d2_11) hr
  · exact ⟨rfl, N0, e0⟩
set_option maxRecDepth 65536 in
set_option maxHeartbeats 40000000 in
theorem law_k1_0_eq (l : Launch) (Z : State) (a0 : Array Value) (hw : ∀ d ∈ tables_1, d.before a0 Z = true) (ws : List Jvm.Cond) (h0 : Heap) (n0 : Nat) (s_SELL : Addr) (s_BUY : Addr) (K : Ctx Z h0 s_SELL s_BUY) (p0 : Int32) (p1 : Int64) (p2 : Int64) (ha : (p0 &&& (1 : Int32)) = (1 : Int32)) (hb1 : (p0 &&& (2 : Int32)) = (0 : Int32)) (hc : p2 = p1) :
    MetFree l x (head1 (Jvm.Cond.code x code maxLocals ret :: ws) room_1) (fun a U => a = #[(.int p0), (.long p1), (.long p2)] ∧ Z.Warmed39 U.vm ∧ U.heap = h0) (fun _ _ _ _ _ => True) (fun _ U o U' => ∃ v L, o = .returned v ∧ QV (.int (1 : Int32)) h0 n0 v U'.heap L ∧ FrameEnd U o U' L room_1.cells room_1.slots) := by
  obtain ⟨S_SELL, S_BUY, ne_BUY_SELL, E_SELL, E_BUY⟩ := id K
  refine MetFree.of_bodySF (plainFor_of_name pn3) hisR ?_
  intro p e s m args below meth c s₁ Bd hml0 hP hK
  obtain ⟨rfl, hZ, hh⟩ := hP
  have hx := Bd.exec
  have hby := Bd.bytes
  have hml : c.maxLocals = 12 := hml0
  have hown : s.vm.findClass "com/example/bookfence/bookfence/engine/SideAllowsPinLaw" = some m.cls := findClass_of_methodNamed Bd.named
  have X0 : Stand p l e room_1 s m #[(.int p0), (.long p1), (.long p2)] below meth c s₁ [] 0 0 := Stand.of_body Bd
  have e0 : s₁.heap = h0 := by rw [← hh, Bd.state]; rfl
  have N0 := Fr.nil n0
  have pre0 : ∀ t, Steps p.tables e below (s₁.setTop (mkF m 0 #[.val (.int p0), .val (.long p1), .second, .val (.long p2), .second, .unset, .unset, .unset, .unset, .unset, .unset, .unset] [])) t → Steps p.tables e below (s₁.setTop (entryFrame m #[(.int p0), (.long p1), (.long p2)] maxLocals)) t := fun t k => castTop (by first | (simp [entryFrame, mkF, argsToLocals, Value.category, maxLocals]; done) | rfl) k
  obtain ⟨T1, X1, e1, st1⟩ := getS X0 hx hZ hown (host := "") (hw _ (List.mem_of_getElem? (i := 10) rfl)) Via.refl e0 S_BUY (g := (mkF m 6 #[.val (.int p0), .val (.long p1), .second, .val (.long p2), .second, .unset, .unset, .unset, .unset, .unset, .unset, .unset] [])) rfl (hb hby at_6)
  obtain ⟨cq2, kq2, q2a, q2b, q2c⟩ := isOf hZ e1 E_BUY
  obtain ⟨_, _, ⟨T2, L2, k2, n2⟩, -, X2, ⟨Lc2, hQ2, l2, y2, z2⟩, st2⟩ := X1.virtualBack hx (y := (⟨"com/example/bookfence/bookfence/engine/Side", "allows", "(JJ)Z"⟩ : MethodName)) (z := (⟨"com/example/bookfence/bookfence/engine/Side", "allows", "(JJ)Z"⟩ : MethodName)) hown (mvT hZ (hw _ (List.mem_of_getElem? (i := 3) rfl))) (mvT hZ (hw _ (List.mem_of_getElem? (i := 4) rfl))) (notFace_of_selects (args := #[]) (mvT hZ (hw _ (List.mem_of_getElem? (i := 6) rfl)))) (mvT hZ (hw _ (List.mem_of_getElem? (i := 6) rfl))) (mvT hZ (hw _ (List.mem_of_getElem? (i := 5) rfl))) (by decide) (backOf (W := 0) (r21 l Z a0 hw [] h0 n0 s_SELL s_BUY K p1 p2 hc) hZ (hw _ (List.mem_of_getElem? (i := 7) rfl)) (hw _ (List.mem_of_getElem? (i := 1) rfl)) (by decide) (by decide)) q2a q2c (g := (mkF m 48 #[.val (.int p0), .val (.long p1), .second, .val (.long p2), .second, .val (.ref s_BUY), .val (.long ((((p0 >>> ((2 : Int32) &&& 31)) &&& (3 : Int32)) - (1 : Int32)).toInt64)), .second, .val (.long p2), .second, .unset, .unset] [(.long p2), (.long p1), (.ref s_BUY)])) rfl (by rw [hml]; rfl) (Steps.refl _) (argsL := [(.long p1), (.long p2)]) (rest := []) (lenOf pd0 rfl) rfl (by show 2 * 0 + _ ≤ _; exact Nat.le_of_eq rfl) (hb hby at_48) (fun _ _ => ⟨rfl, e1, (by decide : 0 + 0 ≤ _), (by decide : 0 + 0 ≤ _)⟩)
  dsimp only [Pt.U, Pt.locs, Pt.cells, Pt.slots] at X2 l2 y2 z2 st2 hQ2
  subst l2 y2 z2
  obtain ⟨rfl, N2q, e2⟩ := hQ2
  have N2 := Fr.app N0 N2q
  obtain ⟨T3, X3, e3, st3⟩ := getS X2 hx hZ hown (host := "") (hw _ (List.mem_of_getElem? (i := 10) rfl)) Via.refl e2 S_BUY (g := (mkF m 55 #[.val (.int p0), .val (.long p1), .second, .val (.long p2), .second, .val (.ref s_BUY), .val (.long ((((p0 >>> ((2 : Int32) &&& 31)) &&& (3 : Int32)) - (1 : Int32)).toInt64)), .second, .val (.long p2), .second, .val (.int (1 : Int32)), .unset] [(.ref s_BUY)])) rfl (hb hby at_55)
  obtain ⟨_, _, ⟨T4, L4, k4, n4⟩, -, X4, ⟨Lc4, hQ4, l4, y4, z4⟩, st4⟩ := Jvm.LawKit.callS X3 hx (y := (⟨"java/lang/Math", "max", "(JJ)J"⟩ : MethodName)) hown (mvT hZ (hw _ (List.mem_of_getElem? (i := 15) rfl))) (mvT hZ (hw _ (List.mem_of_getElem? (i := 16) rfl))) (mvT hZ (hw _ (List.mem_of_getElem? (i := 13) rfl))) (mvT hZ (hw _ (List.mem_of_getElem? (i := 17) rfl))) (by decide) (backOf (W := 0) (r22 l Z a0 hw [] h0 n0 s_SELL s_BUY K p1 p2 hc) hZ (hw _ (List.mem_of_getElem? (i := 17) rfl)) (hw _ (List.mem_of_getElem? (i := 13) rfl)) (by decide) (by decide)) (g := (mkF m 64 #[.val (.int p0), .val (.long p1), .second, .val (.long p2), .second, .val (.ref s_BUY), .val (.long ((((p0 >>> ((2 : Int32) &&& 31)) &&& (3 : Int32)) - (1 : Int32)).toInt64)), .second, .val (.long p2), .second, .val (.int (1 : Int32)), .unset] [(.long p2), (.long p1)])) rfl (by rw [hml]; rfl) (argsL := [(.long p1), (.long p2)]) (rest := []) (lenOf pd1 rfl) rfl (by show 2 * 0 + _ ≤ _; exact Nat.le_of_eq rfl) (hb hby at_64) (fun _ _ => ⟨rfl, e3, (by decide : 0 + 0 ≤ _), (by decide : 0 + 0 ≤ _)⟩)
  dsimp only [Pt.U, Pt.locs, Pt.cells, Pt.slots] at X4 l4 y4 z4 st4 hQ4
  subst l4 y4 z4
  obtain ⟨rfl, N4q, e4⟩ := hQ4
  have N4 := Fr.app N2 N4q
  obtain ⟨fs, hr, hrun, hended, hW, hsame⟩ := X4.leave (v := some (.int (1 : Int32))) (fun h => by rw [Bd.returns] at h; cases h)
  refine ⟨_, _, pre0 _ ?_, hrun, hended, _, _, rfl, ?_, ⟨_, rfl⟩, hW, hsame.mono (by decide) (by decide)⟩
  · show Steps p.tables e below (s₁.setTop (mkF m 0 #[.val (.int p0), .val (.long p1), .second, .val (.long p2), .second, .unset, .unset, .unset, .unset, .unset, .unset, .unset] [])) _
    refine XS.iloadN X0.here hx rfl (hb hby at_0) rfl ?_
    show Steps p.tables e below (s₁.setTop (mkF m 1 #[.val (.int p0), .val (.long p1), .second, .val (.long p2), .second, .unset, .unset, .unset, .unset, .unset, .unset, .unset] [(.int p0)])) _
    refine XS.iconst X0.here hx rfl (hb hby at_1) ?_
    show Steps p.tables e below (s₁.setTop (mkF m 2 #[.val (.int p0), .val (.long p1), .second, .val (.long p2), .second, .unset, .unset, .unset, .unset, .unset, .unset, .unset] [(.int (1 : Int32)), (.int p0)])) _
    refine XS.iand X0.here hx rfl (hb hby at_2) rfl ?_
    show Steps p.tables e below (s₁.setTop (mkF m 3 #[.val (.int p0), .val (.long p1), .second, .val (.long p2), .second, .unset, .unset, .unset, .unset, .unset, .unset, .unset] [(.int (p0 &&& (1 : Int32)))])) _
    rw [ha]
    show Steps p.tables e below (s₁.setTop (mkF m 3 #[.val (.int p0), .val (.long p1), .second, .val (.long p2), .second, .unset, .unset, .unset, .unset, .unset, .unset, .unset] [(.int (1 : Int32))])) _
    refine XS.ifNo X0.here hx rfl (hb hby at_3) rfl (by decide +kernel) ?_
    show Steps p.tables e below (s₁.setTop (mkF m 6 #[.val (.int p0), .val (.long p1), .second, .val (.long p2), .second, .unset, .unset, .unset, .unset, .unset, .unset, .unset] [])) _
    refine st1 _ ?_
    show Steps p.tables e below (T1.setTop (mkF m 9 #[.val (.int p0), .val (.long p1), .second, .val (.long p2), .second, .unset, .unset, .unset, .unset, .unset, .unset, .unset] [(.ref s_BUY)])) _
    refine XS.goto X1.here hx rfl (pc0 := 9) (pc' := 15) rfl (hb hby at_9) (by decide) (by decide) ?_
    show Steps p.tables e below (T1.setTop (mkF m 15 #[.val (.int p0), .val (.long p1), .second, .val (.long p2), .second, .unset, .unset, .unset, .unset, .unset, .unset, .unset] [(.ref s_BUY)])) _
    refine XS.astore X1.here hx rfl (hb hby at_15) rfl rfl (l' := #[.val (.int p0), .val (.long p1), .second, .val (.long p2), .second, .val (.ref s_BUY), .unset, .unset, .unset, .unset, .unset, .unset]) rfl ?_
    show Steps p.tables e below (T1.setTop (mkF m 17 #[.val (.int p0), .val (.long p1), .second, .val (.long p2), .second, .val (.ref s_BUY), .unset, .unset, .unset, .unset, .unset, .unset] [])) _
    refine XS.iloadN X1.here hx rfl (hb hby at_17) rfl ?_
    show Steps p.tables e below (T1.setTop (mkF m 18 #[.val (.int p0), .val (.long p1), .second, .val (.long p2), .second, .val (.ref s_BUY), .unset, .unset, .unset, .unset, .unset, .unset] [(.int p0)])) _
    refine XS.iconst X1.here hx rfl (hb hby at_18) ?_
    show Steps p.tables e below (T1.setTop (mkF m 19 #[.val (.int p0), .val (.long p1), .second, .val (.long p2), .second, .val (.ref s_BUY), .unset, .unset, .unset, .unset, .unset, .unset] [(.int (2 : Int32)), (.int p0)])) _
    refine XS.ishr X1.here hx rfl (hb hby at_19) rfl ?_
    show Steps p.tables e below (T1.setTop (mkF m 20 #[.val (.int p0), .val (.long p1), .second, .val (.long p2), .second, .val (.ref s_BUY), .unset, .unset, .unset, .unset, .unset, .unset] [(.int (p0 >>> ((2 : Int32) &&& 31)))])) _
    refine XS.iconst X1.here hx rfl (hb hby at_20) ?_
    show Steps p.tables e below (T1.setTop (mkF m 21 #[.val (.int p0), .val (.long p1), .second, .val (.long p2), .second, .val (.ref s_BUY), .unset, .unset, .unset, .unset, .unset, .unset] [(.int (3 : Int32)), (.int (p0 >>> ((2 : Int32) &&& 31)))])) _
    refine XS.iand X1.here hx rfl (hb hby at_21) rfl ?_
    show Steps p.tables e below (T1.setTop (mkF m 22 #[.val (.int p0), .val (.long p1), .second, .val (.long p2), .second, .val (.ref s_BUY), .unset, .unset, .unset, .unset, .unset, .unset] [(.int ((p0 >>> ((2 : Int32) &&& 31)) &&& (3 : Int32)))])) _
    refine XS.iconst X1.here hx rfl (hb hby at_22) ?_
    show Steps p.tables e below (T1.setTop (mkF m 23 #[.val (.int p0), .val (.long p1), .second, .val (.long p2), .second, .val (.ref s_BUY), .unset, .unset, .unset, .unset, .unset, .unset] [(.int (1 : Int32)), (.int ((p0 >>> ((2 : Int32) &&& 31)) &&& (3 : Int32)))])) _
    refine XS.isub X1.here hx rfl (hb hby at_23) rfl ?_
    show Steps p.tables e below (T1.setTop (mkF m 24 #[.val (.int p0), .val (.long p1), .second, .val (.long p2), .second, .val (.ref s_BUY), .unset, .unset, .unset, .unset, .unset, .unset] [(.int (((p0 >>> ((2 : Int32) &&& 31)) &&& (3 : Int32)) - (1 : Int32)))])) _
    refine XS.i2l X1.here hx rfl (hb hby at_24) rfl ?_
    show Steps p.tables e below (T1.setTop (mkF m 25 #[.val (.int p0), .val (.long p1), .second, .val (.long p2), .second, .val (.ref s_BUY), .unset, .unset, .unset, .unset, .unset, .unset] [(.long ((((p0 >>> ((2 : Int32) &&& 31)) &&& (3 : Int32)) - (1 : Int32)).toInt64))])) _
    refine XS.lstore X1.here hx rfl (hb hby at_25) rfl (l' := #[.val (.int p0), .val (.long p1), .second, .val (.long p2), .second, .val (.ref s_BUY), .val (.long ((((p0 >>> ((2 : Int32) &&& 31)) &&& (3 : Int32)) - (1 : Int32)).toInt64)), .second, .unset, .unset, .unset, .unset]) rfl ?_
    show Steps p.tables e below (T1.setTop (mkF m 27 #[.val (.int p0), .val (.long p1), .second, .val (.long p2), .second, .val (.ref s_BUY), .val (.long ((((p0 >>> ((2 : Int32) &&& 31)) &&& (3 : Int32)) - (1 : Int32)).toInt64)), .second, .unset, .unset, .unset, .unset] [])) _
    refine XS.iloadN X1.here hx rfl (hb hby at_27) rfl ?_
    show Steps p.tables e below (T1.setTop (mkF m 28 #[.val (.int p0), .val (.long p1), .second, .val (.long p2), .second, .val (.ref s_BUY), .val (.long ((((p0 >>> ((2 : Int32) &&& 31)) &&& (3 : Int32)) - (1 : Int32)).toInt64)), .second, .unset, .unset, .unset, .unset] [(.int p0)])) _
    refine XS.iconst X1.here hx rfl (hb hby at_28) ?_
    show Steps p.tables e below (T1.setTop (mkF m 29 #[.val (.int p0), .val (.long p1), .second, .val (.long p2), .second, .val (.ref s_BUY), .val (.long ((((p0 >>> ((2 : Int32) &&& 31)) &&& (3 : Int32)) - (1 : Int32)).toInt64)), .second, .unset, .unset, .unset, .unset] [(.int (2 : Int32)), (.int p0)])) _
    refine XS.iand X1.here hx rfl (hb hby at_29) rfl ?_
    show Steps p.tables e below (T1.setTop (mkF m 30 #[.val (.int p0), .val (.long p1), .second, .val (.long p2), .second, .val (.ref s_BUY), .val (.long ((((p0 >>> ((2 : Int32) &&& 31)) &&& (3 : Int32)) - (1 : Int32)).toInt64)), .second, .unset, .unset, .unset, .unset] [(.int (p0 &&& (2 : Int32)))])) _
    rw [hb1]
    show Steps p.tables e below (T1.setTop (mkF m 30 #[.val (.int p0), .val (.long p1), .second, .val (.long p2), .second, .val (.ref s_BUY), .val (.long ((((p0 >>> ((2 : Int32) &&& 31)) &&& (3 : Int32)) - (1 : Int32)).toInt64)), .second, .unset, .unset, .unset, .unset] [(.int (0 : Int32))])) _
    refine XS.ifYes X1.here hx rfl (pc0 := 30) (pc' := 40) rfl (hb hby at_30) rfl (by decide +kernel) (by decide) (by decide) ?_
    show Steps p.tables e below (T1.setTop (mkF m 40 #[.val (.int p0), .val (.long p1), .second, .val (.long p2), .second, .val (.ref s_BUY), .val (.long ((((p0 >>> ((2 : Int32) &&& 31)) &&& (3 : Int32)) - (1 : Int32)).toInt64)), .second, .unset, .unset, .unset, .unset] [])) _
    refine XS.lloadN X1.here hx rfl (hb hby at_40) rfl ?_
    show Steps p.tables e below (T1.setTop (mkF m 41 #[.val (.int p0), .val (.long p1), .second, .val (.long p2), .second, .val (.ref s_BUY), .val (.long ((((p0 >>> ((2 : Int32) &&& 31)) &&& (3 : Int32)) - (1 : Int32)).toInt64)), .second, .unset, .unset, .unset, .unset] [(.long p2)])) _
    refine XS.lstore X1.here hx rfl (hb hby at_41) rfl (l' := #[.val (.int p0), .val (.long p1), .second, .val (.long p2), .second, .val (.ref s_BUY), .val (.long ((((p0 >>> ((2 : Int32) &&& 31)) &&& (3 : Int32)) - (1 : Int32)).toInt64)), .second, .val (.long p2), .second, .unset, .unset]) rfl ?_
    show Steps p.tables e below (T1.setTop (mkF m 43 #[.val (.int p0), .val (.long p1), .second, .val (.long p2), .second, .val (.ref s_BUY), .val (.long ((((p0 >>> ((2 : Int32) &&& 31)) &&& (3 : Int32)) - (1 : Int32)).toInt64)), .second, .val (.long p2), .second, .unset, .unset] [])) _
    refine XS.aload X1.here hx rfl (hb hby at_43) rfl rfl ?_
    show Steps p.tables e below (T1.setTop (mkF m 45 #[.val (.int p0), .val (.long p1), .second, .val (.long p2), .second, .val (.ref s_BUY), .val (.long ((((p0 >>> ((2 : Int32) &&& 31)) &&& (3 : Int32)) - (1 : Int32)).toInt64)), .second, .val (.long p2), .second, .unset, .unset] [(.ref s_BUY)])) _
    refine XS.lloadN X1.here hx rfl (hb hby at_45) rfl ?_
    show Steps p.tables e below (T1.setTop (mkF m 46 #[.val (.int p0), .val (.long p1), .second, .val (.long p2), .second, .val (.ref s_BUY), .val (.long ((((p0 >>> ((2 : Int32) &&& 31)) &&& (3 : Int32)) - (1 : Int32)).toInt64)), .second, .val (.long p2), .second, .unset, .unset] [(.long p1), (.ref s_BUY)])) _
    refine XS.lload X1.here hx rfl (hb hby at_46) rfl ?_
    show Steps p.tables e below (T1.setTop (mkF m 48 #[.val (.int p0), .val (.long p1), .second, .val (.long p2), .second, .val (.ref s_BUY), .val (.long ((((p0 >>> ((2 : Int32) &&& 31)) &&& (3 : Int32)) - (1 : Int32)).toInt64)), .second, .val (.long p2), .second, .unset, .unset] [(.long p2), (.long p1), (.ref s_BUY)])) _
    refine st2.trans ?_
    show Steps p.tables e below (T2.setTop (mkF m 51 #[.val (.int p0), .val (.long p1), .second, .val (.long p2), .second, .val (.ref s_BUY), .val (.long ((((p0 >>> ((2 : Int32) &&& 31)) &&& (3 : Int32)) - (1 : Int32)).toInt64)), .second, .val (.long p2), .second, .unset, .unset] [(.int (1 : Int32))])) _
    refine XS.istore X2.here hx rfl (hb hby at_51) rfl (l' := #[.val (.int p0), .val (.long p1), .second, .val (.long p2), .second, .val (.ref s_BUY), .val (.long ((((p0 >>> ((2 : Int32) &&& 31)) &&& (3 : Int32)) - (1 : Int32)).toInt64)), .second, .val (.long p2), .second, .val (.int (1 : Int32)), .unset]) rfl ?_
    show Steps p.tables e below (T2.setTop (mkF m 53 #[.val (.int p0), .val (.long p1), .second, .val (.long p2), .second, .val (.ref s_BUY), .val (.long ((((p0 >>> ((2 : Int32) &&& 31)) &&& (3 : Int32)) - (1 : Int32)).toInt64)), .second, .val (.long p2), .second, .val (.int (1 : Int32)), .unset] [])) _
    refine XS.aload X2.here hx rfl (hb hby at_53) rfl rfl ?_
    show Steps p.tables e below (T2.setTop (mkF m 55 #[.val (.int p0), .val (.long p1), .second, .val (.long p2), .second, .val (.ref s_BUY), .val (.long ((((p0 >>> ((2 : Int32) &&& 31)) &&& (3 : Int32)) - (1 : Int32)).toInt64)), .second, .val (.long p2), .second, .val (.int (1 : Int32)), .unset] [(.ref s_BUY)])) _
    refine st3 _ ?_
    show Steps p.tables e below (T3.setTop (mkF m 58 #[.val (.int p0), .val (.long p1), .second, .val (.long p2), .second, .val (.ref s_BUY), .val (.long ((((p0 >>> ((2 : Int32) &&& 31)) &&& (3 : Int32)) - (1 : Int32)).toInt64)), .second, .val (.long p2), .second, .val (.int (1 : Int32)), .unset] [(.ref s_BUY), (.ref s_BUY)])) _
    refine Jvm.RoadKit.acmp (g := (mkF m 58 #[.val (.int p0), .val (.long p1), .second, .val (.long p2), .second, .val (.ref s_BUY), .val (.long ((((p0 >>> ((2 : Int32) &&& 31)) &&& (3 : Int32)) - (1 : Int32)).toInt64)), .second, .val (.long p2), .second, .val (.int (1 : Int32)), .unset] [(.ref s_BUY), (.ref s_BUY)])) X3 hx rfl rfl rfl (pc0 := 58) (pc' := 61) (same := true) rfl (hb hby at_58) rfl (decide_eq_true rfl) (by decide) (by decide) ?_
    show Steps p.tables e below (T3.setTop (mkF m 61 #[.val (.int p0), .val (.long p1), .second, .val (.long p2), .second, .val (.ref s_BUY), .val (.long ((((p0 >>> ((2 : Int32) &&& 31)) &&& (3 : Int32)) - (1 : Int32)).toInt64)), .second, .val (.long p2), .second, .val (.int (1 : Int32)), .unset] [])) _
    refine XS.lloadN X3.here hx rfl (hb hby at_61) rfl ?_
    show Steps p.tables e below (T3.setTop (mkF m 62 #[.val (.int p0), .val (.long p1), .second, .val (.long p2), .second, .val (.ref s_BUY), .val (.long ((((p0 >>> ((2 : Int32) &&& 31)) &&& (3 : Int32)) - (1 : Int32)).toInt64)), .second, .val (.long p2), .second, .val (.int (1 : Int32)), .unset] [(.long p1)])) _
    refine XS.lload X3.here hx rfl (hb hby at_62) rfl ?_
    show Steps p.tables e below (T3.setTop (mkF m 64 #[.val (.int p0), .val (.long p1), .second, .val (.long p2), .second, .val (.ref s_BUY), .val (.long ((((p0 >>> ((2 : Int32) &&& 31)) &&& (3 : Int32)) - (1 : Int32)).toInt64)), .second, .val (.long p2), .second, .val (.int (1 : Int32)), .unset] [(.long p2), (.long p1)])) _
    refine st4 _ ?_
    show Steps p.tables e below (T4.setTop (mkF m 67 #[.val (.int p0), .val (.long p1), .second, .val (.long p2), .second, .val (.ref s_BUY), .val (.long ((((p0 >>> ((2 : Int32) &&& 31)) &&& (3 : Int32)) - (1 : Int32)).toInt64)), .second, .val (.long p2), .second, .val (.int (1 : Int32)), .unset] [(.long p1)])) _
    refine XS.lloadN X4.here hx rfl (hb hby at_67) rfl ?_
    show Steps p.tables e below (T4.setTop (mkF m 68 #[.val (.int p0), .val (.long p1), .second, .val (.long p2), .second, .val (.ref s_BUY), .val (.long ((((p0 >>> ((2 : Int32) &&& 31)) &&& (3 : Int32)) - (1 : Int32)).toInt64)), .second, .val (.long p2), .second, .val (.int (1 : Int32)), .unset] [(.long p1), (.long p1)])) _
    refine XS.lcmp X4.here hx rfl (hb hby at_68) rfl ?_
    show Steps p.tables e below (T4.setTop (mkF m 69 #[.val (.int p0), .val (.long p1), .second, .val (.long p2), .second, .val (.ref s_BUY), .val (.long ((((p0 >>> ((2 : Int32) &&& 31)) &&& (3 : Int32)) - (1 : Int32)).toInt64)), .second, .val (.long p2), .second, .val (.int (1 : Int32)), .unset] [(.int (lcmpW p1 p1))])) _
    rw [own_lc_eq (rfl : p1 = p1)]
    show Steps p.tables e below (T4.setTop (mkF m 69 #[.val (.int p0), .val (.long p1), .second, .val (.long p2), .second, .val (.ref s_BUY), .val (.long ((((p0 >>> ((2 : Int32) &&& 31)) &&& (3 : Int32)) - (1 : Int32)).toInt64)), .second, .val (.long p2), .second, .val (.int (1 : Int32)), .unset] [(.int (0 : Int32))])) _
    refine XS.ifNo X4.here hx rfl (hb hby at_69) rfl (by decide +kernel) ?_
    show Steps p.tables e below (T4.setTop (mkF m 72 #[.val (.int p0), .val (.long p1), .second, .val (.long p2), .second, .val (.ref s_BUY), .val (.long ((((p0 >>> ((2 : Int32) &&& 31)) &&& (3 : Int32)) - (1 : Int32)).toInt64)), .second, .val (.long p2), .second, .val (.int (1 : Int32)), .unset] [])) _
    refine XS.iconst X4.here hx rfl (hb hby at_72) ?_
    show Steps p.tables e below (T4.setTop (mkF m 73 #[.val (.int p0), .val (.long p1), .second, .val (.long p2), .second, .val (.ref s_BUY), .val (.long ((((p0 >>> ((2 : Int32) &&& 31)) &&& (3 : Int32)) - (1 : Int32)).toInt64)), .second, .val (.long p2), .second, .val (.int (1 : Int32)), .unset] [(.int (1 : Int32))])) _
    refine XS.goto X4.here hx rfl (pc0 := 73) (pc' := 77) rfl (hb hby at_73) (by decide) (by decide) ?_
    show Steps p.tables e below (T4.setTop (mkF m 77 #[.val (.int p0), .val (.long p1), .second, .val (.long p2), .second, .val (.ref s_BUY), .val (.long ((((p0 >>> ((2 : Int32) &&& 31)) &&& (3 : Int32)) - (1 : Int32)).toInt64)), .second, .val (.long p2), .second, .val (.int (1 : Int32)), .unset] [(.int (1 : Int32))])) _
    refine XS.istore X4.here hx rfl (hb hby at_77) rfl (l' := #[.val (.int p0), .val (.long p1), .second, .val (.long p2), .second, .val (.ref s_BUY), .val (.long ((((p0 >>> ((2 : Int32) &&& 31)) &&& (3 : Int32)) - (1 : Int32)).toInt64)), .second, .val (.long p2), .second, .val (.int (1 : Int32)), .val (.int (1 : Int32))]) rfl ?_
    show Steps p.tables e below (T4.setTop (mkF m 79 #[.val (.int p0), .val (.long p1), .second, .val (.long p2), .second, .val (.ref s_BUY), .val (.long ((((p0 >>> ((2 : Int32) &&& 31)) &&& (3 : Int32)) - (1 : Int32)).toInt64)), .second, .val (.long p2), .second, .val (.int (1 : Int32)), .val (.int (1 : Int32))] [])) _
    refine XS.goto X4.here hx rfl (pc0 := 79) (pc' := 100) rfl (hb hby at_79) (by decide) (by decide) ?_
    show Steps p.tables e below (T4.setTop (mkF m 100 #[.val (.int p0), .val (.long p1), .second, .val (.long p2), .second, .val (.ref s_BUY), .val (.long ((((p0 >>> ((2 : Int32) &&& 31)) &&& (3 : Int32)) - (1 : Int32)).toInt64)), .second, .val (.long p2), .second, .val (.int (1 : Int32)), .val (.int (1 : Int32))] [])) _
    refine XS.iload X4.here hx rfl (hb hby at_100) rfl ?_
    show Steps p.tables e below (T4.setTop (mkF m 102 #[.val (.int p0), .val (.long p1), .second, .val (.long p2), .second, .val (.ref s_BUY), .val (.long ((((p0 >>> ((2 : Int32) &&& 31)) &&& (3 : Int32)) - (1 : Int32)).toInt64)), .second, .val (.long p2), .second, .val (.int (1 : Int32)), .val (.int (1 : Int32))] [(.int (1 : Int32))])) _
    refine XS.iload X4.here hx rfl (hb hby at_102) rfl ?_
    show Steps p.tables e below (T4.setTop (mkF m 104 #[.val (.int p0), .val (.long p1), .second, .val (.long p2), .second, .val (.ref s_BUY), .val (.long ((((p0 >>> ((2 : Int32) &&& 31)) &&& (3 : Int32)) - (1 : Int32)).toInt64)), .second, .val (.long p2), .second, .val (.int (1 : Int32)), .val (.int (1 : Int32))] [(.int (1 : Int32)), (.int (1 : Int32))])) _
    refine XS.icmpNo X4.here hx rfl (hb hby at_104) rfl (by decide +kernel) ?_
    show Steps p.tables e below (T4.setTop (mkF m 107 #[.val (.int p0), .val (.long p1), .second, .val (.long p2), .second, .val (.ref s_BUY), .val (.long ((((p0 >>> ((2 : Int32) &&& 31)) &&& (3 : Int32)) - (1 : Int32)).toInt64)), .second, .val (.long p2), .second, .val (.int (1 : Int32)), .val (.int (1 : Int32))] [])) _
    refine XS.iconst X4.here hx rfl (hb hby at_107) ?_
    show Steps p.tables e below (T4.setTop (mkF m 108 #[.val (.int p0), .val (.long p1), .second, .val (.long p2), .second, .val (.ref s_BUY), .val (.long ((((p0 >>> ((2 : Int32) &&& 31)) &&& (3 : Int32)) - (1 : Int32)).toInt64)), .second, .val (.long p2), .second, .val (.int (1 : Int32)), .val (.int (1 : Int32))] [(.int (1 : Int32))])) _
    refine XS.goto X4.here hx rfl (pc0 := 108) (pc' := 112) rfl (hb hby at_108) (by decide) (by decide) ?_
    show Steps p.tables e below (T4.setTop (mkF m 112 #[.val (.int p0), .val (.long p1), .second, .val (.long p2), .second, .val (.ref s_BUY), .val (.long ((((p0 >>> ((2 : Int32) &&& 31)) &&& (3 : Int32)) - (1 : Int32)).toInt64)), .second, .val (.long p2), .second, .val (.int (1 : Int32)), .val (.int (1 : Int32))] [(.int (1 : Int32))])) _
    exact retN X4 hx (t := .boolean) Bd.returns (by simp) (hb hby at_112) hr
  · exact ⟨rfl, N4, e4⟩
set_option maxRecDepth 65536 in
set_option maxHeartbeats 40000000 in
theorem r24 (l : Launch) (Z : State) (a0 : Array Value) (hw : ∀ d ∈ tables_1, d.before a0 Z = true) (ws : List Jvm.Cond) (h0 : Heap) (n0 : Nat) (s_SELL : Addr) (s_BUY : Addr) (K : Ctx Z h0 s_SELL s_BUY) (p1 : Int64) (p2 : Int64) (hc : p1 < p2) :
    MetFree l (⟨"com/example/bookfence/bookfence/engine/Side", "allows", "(JJ)Z"⟩ : MethodName) (head1 (Jvm.Cond.code (⟨"com/example/bookfence/bookfence/engine/Side", "allows", "(JJ)Z"⟩ : MethodName) prog_44_method_5_code 5 (some .boolean) :: ws) ({ frames := 0, cells := 0, slots := 0, locals := 0 } : Room)) (fun a U => a = #[(.ref s_BUY), (.long p1), (.long p2)] ∧ Z.Warmed39 U.vm ∧ U.heap = h0) (fun _ _ _ _ _ => True) (fun _ U o U' => ∃ v L, o = .returned v ∧ QV (.int (0 : Int32)) h0 n0 v U'.heap L ∧ FrameEnd U o U' L ({ frames := 0, cells := 0, slots := 0, locals := 0 } : Room).cells ({ frames := 0, cells := 0, slots := 0, locals := 0 } : Room).slots) := by
  obtain ⟨S_SELL, S_BUY, ne_BUY_SELL, E_SELL, E_BUY⟩ := id K
  refine MetFree.of_bodySF (plainFor_of_name pn0) hisR ?_
  intro p e s m args below meth c s₁ Bd hml0 hP hK
  obtain ⟨rfl, hZ, hh⟩ := hP
  have hx := Bd.exec
  have hby := Bd.bytes
  have hml : c.maxLocals = 5 := hml0
  have hown : s.vm.findClass "com/example/bookfence/bookfence/engine/Side" = some m.cls := findClass_of_methodNamed Bd.named
  have X0 : Stand p l e ({ frames := 0, cells := 0, slots := 0, locals := 0 } : Room) s m #[(.ref s_BUY), (.long p1), (.long p2)] below meth c s₁ [] 0 0 := Stand.of_body Bd
  have e0 : s₁.heap = h0 := by rw [← hh, Bd.state]; rfl
  have N0 := Fr.nil n0
  have pre0 : ∀ t, Steps p.tables e below (s₁.setTop (mkF m 0 #[.val (.ref s_BUY), .val (.long p1), .second, .val (.long p2), .second] [])) t → Steps p.tables e below (s₁.setTop (entryFrame m #[(.ref s_BUY), (.long p1), (.long p2)] 5)) t := fun t k => castTop (by first | (simp [entryFrame, mkF, argsToLocals, Value.category]; done) | rfl) k
  obtain ⟨T1, X1, e1, st1⟩ := getS X0 hx hZ hown (host := "") (hw _ (List.mem_of_getElem? (i := 8) rfl)) Via.refl e0 S_BUY (g := (mkF m 1 #[.val (.ref s_BUY), .val (.long p1), .second, .val (.long p2), .second] [(.ref s_BUY)])) rfl (hb hby d0_1)
  obtain ⟨fs, hr, hrun, hended, hW, hsame⟩ := X1.leave (v := some (.int (0 : Int32))) (fun h => by rw [Bd.returns] at h; cases h)
  refine ⟨_, _, pre0 _ ?_, hrun, hended, _, _, rfl, ?_, ⟨_, rfl⟩, hW, hsame.mono (by decide) (by decide)⟩
  · show Steps p.tables e below (s₁.setTop (mkF m 0 #[.val (.ref s_BUY), .val (.long p1), .second, .val (.long p2), .second] [])) _
    refine XS.aloadN X0.here hx rfl (hb hby d0_0) rfl rfl ?_
    show Steps p.tables e below (s₁.setTop (mkF m 1 #[.val (.ref s_BUY), .val (.long p1), .second, .val (.long p2), .second] [(.ref s_BUY)])) _
    refine st1 _ ?_
    show Steps p.tables e below (T1.setTop (mkF m 4 #[.val (.ref s_BUY), .val (.long p1), .second, .val (.long p2), .second] [(.ref s_BUY), (.ref s_BUY)])) _
    refine Jvm.RoadKit.acmp (g := (mkF m 4 #[.val (.ref s_BUY), .val (.long p1), .second, .val (.long p2), .second] [(.ref s_BUY), (.ref s_BUY)])) X1 hx rfl rfl rfl (pc0 := 4) (pc' := 7) (same := true) rfl (hb hby d0_4) rfl (decide_eq_true rfl) (by decide) (by decide) ?_
    show Steps p.tables e below (T1.setTop (mkF m 7 #[.val (.ref s_BUY), .val (.long p1), .second, .val (.long p2), .second] [])) _
    refine XS.lloadN X1.here hx rfl (hb hby d0_7) rfl ?_
    show Steps p.tables e below (T1.setTop (mkF m 8 #[.val (.ref s_BUY), .val (.long p1), .second, .val (.long p2), .second] [(.long p2)])) _
    refine XS.lloadN X1.here hx rfl (hb hby d0_8) rfl ?_
    show Steps p.tables e below (T1.setTop (mkF m 9 #[.val (.ref s_BUY), .val (.long p1), .second, .val (.long p2), .second] [(.long p1), (.long p2)])) _
    refine XS.lcmp X1.here hx rfl (hb hby d0_9) rfl ?_
    show Steps p.tables e below (T1.setTop (mkF m 10 #[.val (.ref s_BUY), .val (.long p1), .second, .val (.long p2), .second] [(.int (lcmpW p2 p1))])) _
    rw [own_lc_gt hc]
    show Steps p.tables e below (T1.setTop (mkF m 10 #[.val (.ref s_BUY), .val (.long p1), .second, .val (.long p2), .second] [(.int (1 : Int32))])) _
    refine XS.ifYes X1.here hx rfl (pc0 := 10) (pc' := 17) rfl (hb hby d0_10) rfl (by decide +kernel) (by decide) (by decide) ?_
    show Steps p.tables e below (T1.setTop (mkF m 17 #[.val (.ref s_BUY), .val (.long p1), .second, .val (.long p2), .second] [])) _
    refine XS.iconst X1.here hx rfl (hb hby d0_17) ?_
    show Steps p.tables e below (T1.setTop (mkF m 18 #[.val (.ref s_BUY), .val (.long p1), .second, .val (.long p2), .second] [(.int (0 : Int32))])) _
    refine XS.goto X1.here hx rfl (pc0 := 18) (pc' := 32) rfl (hb hby d0_18) (by decide) (by decide) ?_
    show Steps p.tables e below (T1.setTop (mkF m 32 #[.val (.ref s_BUY), .val (.long p1), .second, .val (.long p2), .second] [(.int (0 : Int32))])) _
    exact retN X1 hx (t := .boolean) Bd.returns (by simp) (hb hby d0_32) hr
  · exact ⟨rfl, N0, e1⟩
set_option maxRecDepth 65536 in
set_option maxHeartbeats 40000000 in
theorem r25 (l : Launch) (Z : State) (a0 : Array Value) (hw : ∀ d ∈ tables_1, d.before a0 Z = true) (ws : List Jvm.Cond) (h0 : Heap) (n0 : Nat) (s_SELL : Addr) (s_BUY : Addr) (K : Ctx Z h0 s_SELL s_BUY) (p1 : Int64) (p2 : Int64) (hc : p1 < p2) :
    MetFree l (⟨"java/lang/Math", "max", "(JJ)J"⟩ : MethodName) (head1 (Jvm.Cond.code (⟨"java/lang/Math", "max", "(JJ)J"⟩ : MethodName) jdk_29_method_66_code 4 (some .long) :: ws) ({ frames := 0, cells := 0, slots := 0, locals := 0 } : Room)) (fun a U => a = #[(.long p1), (.long p2)] ∧ Z.Warmed39 U.vm ∧ U.heap = h0) (fun _ _ _ _ _ => True) (fun _ U o U' => ∃ v L, o = .returned v ∧ QV (.long p2) h0 n0 v U'.heap L ∧ FrameEnd U o U' L ({ frames := 0, cells := 0, slots := 0, locals := 0 } : Room).cells ({ frames := 0, cells := 0, slots := 0, locals := 0 } : Room).slots) := by
  obtain ⟨S_SELL, S_BUY, ne_BUY_SELL, E_SELL, E_BUY⟩ := id K
  refine MetFree.of_bodySF (Jvm.Free.JP.mathPlain rfl (by decide +kernel)) hisR ?_
  intro p e s m args below meth c s₁ Bd hml0 hP hK
  obtain ⟨rfl, hZ, hh⟩ := hP
  have hx := Bd.exec
  have hby := Bd.bytes
  have hml : c.maxLocals = 4 := hml0
  have hown : s.vm.findClass "java/lang/Math" = some m.cls := findClass_of_methodNamed Bd.named
  have X0 : Stand p l e ({ frames := 0, cells := 0, slots := 0, locals := 0 } : Room) s m #[(.long p1), (.long p2)] below meth c s₁ [] 0 0 := Stand.of_body Bd
  have e0 : s₁.heap = h0 := by rw [← hh, Bd.state]; rfl
  have N0 := Fr.nil n0
  have pre0 : ∀ t, Steps p.tables e below (s₁.setTop (mkF m 0 #[.val (.long p1), .second, .val (.long p2), .second] [])) t → Steps p.tables e below (s₁.setTop (entryFrame m #[(.long p1), (.long p2)] 4)) t := fun t k => castTop (by first | (simp [entryFrame, mkF, argsToLocals, Value.category]; done) | rfl) k
  obtain ⟨fs, hr, hrun, hended, hW, hsame⟩ := X0.leave (v := some (.long p2)) (fun h => by rw [Bd.returns] at h; cases h)
  refine ⟨_, _, pre0 _ ?_, hrun, hended, _, _, rfl, ?_, ⟨_, rfl⟩, hW, hsame.mono (by decide) (by decide)⟩
  · show Steps p.tables e below (s₁.setTop (mkF m 0 #[.val (.long p1), .second, .val (.long p2), .second] [])) _
    refine XS.lloadN X0.here hx rfl (hb hby d2_0) rfl ?_
    show Steps p.tables e below (s₁.setTop (mkF m 1 #[.val (.long p1), .second, .val (.long p2), .second] [(.long p1)])) _
    refine XS.lloadN X0.here hx rfl (hb hby d2_1) rfl ?_
    show Steps p.tables e below (s₁.setTop (mkF m 2 #[.val (.long p1), .second, .val (.long p2), .second] [(.long p2), (.long p1)])) _
    refine XS.lcmp X0.here hx rfl (hb hby d2_2) rfl ?_
    show Steps p.tables e below (s₁.setTop (mkF m 3 #[.val (.long p1), .second, .val (.long p2), .second] [(.int (lcmpW p1 p2))])) _
    rw [own_lr_gt hc]
    show Steps p.tables e below (s₁.setTop (mkF m 3 #[.val (.long p1), .second, .val (.long p2), .second] [(.int (-1 : Int32))])) _
    refine XS.ifYes X0.here hx rfl (pc0 := 3) (pc' := 10) rfl (hb hby d2_3) rfl (by decide +kernel) (by decide) (by decide) ?_
    show Steps p.tables e below (s₁.setTop (mkF m 10 #[.val (.long p1), .second, .val (.long p2), .second] [])) _
    refine XS.lloadN X0.here hx rfl (hb hby d2_10) rfl ?_
    show Steps p.tables e below (s₁.setTop (mkF m 11 #[.val (.long p1), .second, .val (.long p2), .second] [(.long p2)])) _
    exact retOut X0 hx (i := .lreturn) Bd.returns rfl (Or.inr (Or.inl ⟨rfl, rfl, _, rfl⟩)) (hb hby d2_11) hr
  · exact ⟨rfl, N0, e0⟩
set_option maxRecDepth 65536 in
set_option maxHeartbeats 40000000 in
theorem law_k1_0_gt (l : Launch) (Z : State) (a0 : Array Value) (hw : ∀ d ∈ tables_1, d.before a0 Z = true) (ws : List Jvm.Cond) (h0 : Heap) (n0 : Nat) (s_SELL : Addr) (s_BUY : Addr) (K : Ctx Z h0 s_SELL s_BUY) (p0 : Int32) (p1 : Int64) (p2 : Int64) (ha : (p0 &&& (1 : Int32)) = (1 : Int32)) (hb1 : (p0 &&& (2 : Int32)) = (0 : Int32)) (hc : p1 < p2) :
    MetFree l x (head1 (Jvm.Cond.code x code maxLocals ret :: ws) room_1) (fun a U => a = #[(.int p0), (.long p1), (.long p2)] ∧ Z.Warmed39 U.vm ∧ U.heap = h0) (fun _ _ _ _ _ => True) (fun _ U o U' => ∃ v L, o = .returned v ∧ QV (.int (1 : Int32)) h0 n0 v U'.heap L ∧ FrameEnd U o U' L room_1.cells room_1.slots) := by
  obtain ⟨S_SELL, S_BUY, ne_BUY_SELL, E_SELL, E_BUY⟩ := id K
  refine MetFree.of_bodySF (plainFor_of_name pn3) hisR ?_
  intro p e s m args below meth c s₁ Bd hml0 hP hK
  obtain ⟨rfl, hZ, hh⟩ := hP
  have hx := Bd.exec
  have hby := Bd.bytes
  have hml : c.maxLocals = 12 := hml0
  have hown : s.vm.findClass "com/example/bookfence/bookfence/engine/SideAllowsPinLaw" = some m.cls := findClass_of_methodNamed Bd.named
  have X0 : Stand p l e room_1 s m #[(.int p0), (.long p1), (.long p2)] below meth c s₁ [] 0 0 := Stand.of_body Bd
  have e0 : s₁.heap = h0 := by rw [← hh, Bd.state]; rfl
  have N0 := Fr.nil n0
  have pre0 : ∀ t, Steps p.tables e below (s₁.setTop (mkF m 0 #[.val (.int p0), .val (.long p1), .second, .val (.long p2), .second, .unset, .unset, .unset, .unset, .unset, .unset, .unset] [])) t → Steps p.tables e below (s₁.setTop (entryFrame m #[(.int p0), (.long p1), (.long p2)] maxLocals)) t := fun t k => castTop (by first | (simp [entryFrame, mkF, argsToLocals, Value.category, maxLocals]; done) | rfl) k
  obtain ⟨T1, X1, e1, st1⟩ := getS X0 hx hZ hown (host := "") (hw _ (List.mem_of_getElem? (i := 10) rfl)) Via.refl e0 S_BUY (g := (mkF m 6 #[.val (.int p0), .val (.long p1), .second, .val (.long p2), .second, .unset, .unset, .unset, .unset, .unset, .unset, .unset] [])) rfl (hb hby at_6)
  obtain ⟨cq2, kq2, q2a, q2b, q2c⟩ := isOf hZ e1 E_BUY
  obtain ⟨_, _, ⟨T2, L2, k2, n2⟩, -, X2, ⟨Lc2, hQ2, l2, y2, z2⟩, st2⟩ := X1.virtualBack hx (y := (⟨"com/example/bookfence/bookfence/engine/Side", "allows", "(JJ)Z"⟩ : MethodName)) (z := (⟨"com/example/bookfence/bookfence/engine/Side", "allows", "(JJ)Z"⟩ : MethodName)) hown (mvT hZ (hw _ (List.mem_of_getElem? (i := 3) rfl))) (mvT hZ (hw _ (List.mem_of_getElem? (i := 4) rfl))) (notFace_of_selects (args := #[]) (mvT hZ (hw _ (List.mem_of_getElem? (i := 6) rfl)))) (mvT hZ (hw _ (List.mem_of_getElem? (i := 6) rfl))) (mvT hZ (hw _ (List.mem_of_getElem? (i := 5) rfl))) (by decide) (backOf (W := 0) (r24 l Z a0 hw [] h0 n0 s_SELL s_BUY K p1 p2 hc) hZ (hw _ (List.mem_of_getElem? (i := 7) rfl)) (hw _ (List.mem_of_getElem? (i := 1) rfl)) (by decide) (by decide)) q2a q2c (g := (mkF m 48 #[.val (.int p0), .val (.long p1), .second, .val (.long p2), .second, .val (.ref s_BUY), .val (.long ((((p0 >>> ((2 : Int32) &&& 31)) &&& (3 : Int32)) - (1 : Int32)).toInt64)), .second, .val (.long p2), .second, .unset, .unset] [(.long p2), (.long p1), (.ref s_BUY)])) rfl (by rw [hml]; rfl) (Steps.refl _) (argsL := [(.long p1), (.long p2)]) (rest := []) (lenOf pd0 rfl) rfl (by show 2 * 0 + _ ≤ _; exact Nat.le_of_eq rfl) (hb hby at_48) (fun _ _ => ⟨rfl, e1, (by decide : 0 + 0 ≤ _), (by decide : 0 + 0 ≤ _)⟩)
  dsimp only [Pt.U, Pt.locs, Pt.cells, Pt.slots] at X2 l2 y2 z2 st2 hQ2
  subst l2 y2 z2
  obtain ⟨rfl, N2q, e2⟩ := hQ2
  have N2 := Fr.app N0 N2q
  obtain ⟨T3, X3, e3, st3⟩ := getS X2 hx hZ hown (host := "") (hw _ (List.mem_of_getElem? (i := 10) rfl)) Via.refl e2 S_BUY (g := (mkF m 55 #[.val (.int p0), .val (.long p1), .second, .val (.long p2), .second, .val (.ref s_BUY), .val (.long ((((p0 >>> ((2 : Int32) &&& 31)) &&& (3 : Int32)) - (1 : Int32)).toInt64)), .second, .val (.long p2), .second, .val (.int (0 : Int32)), .unset] [(.ref s_BUY)])) rfl (hb hby at_55)
  obtain ⟨_, _, ⟨T4, L4, k4, n4⟩, -, X4, ⟨Lc4, hQ4, l4, y4, z4⟩, st4⟩ := Jvm.LawKit.callS X3 hx (y := (⟨"java/lang/Math", "max", "(JJ)J"⟩ : MethodName)) hown (mvT hZ (hw _ (List.mem_of_getElem? (i := 15) rfl))) (mvT hZ (hw _ (List.mem_of_getElem? (i := 16) rfl))) (mvT hZ (hw _ (List.mem_of_getElem? (i := 13) rfl))) (mvT hZ (hw _ (List.mem_of_getElem? (i := 17) rfl))) (by decide) (backOf (W := 0) (r25 l Z a0 hw [] h0 n0 s_SELL s_BUY K p1 p2 hc) hZ (hw _ (List.mem_of_getElem? (i := 17) rfl)) (hw _ (List.mem_of_getElem? (i := 13) rfl)) (by decide) (by decide)) (g := (mkF m 64 #[.val (.int p0), .val (.long p1), .second, .val (.long p2), .second, .val (.ref s_BUY), .val (.long ((((p0 >>> ((2 : Int32) &&& 31)) &&& (3 : Int32)) - (1 : Int32)).toInt64)), .second, .val (.long p2), .second, .val (.int (0 : Int32)), .unset] [(.long p2), (.long p1)])) rfl (by rw [hml]; rfl) (argsL := [(.long p1), (.long p2)]) (rest := []) (lenOf pd1 rfl) rfl (by show 2 * 0 + _ ≤ _; exact Nat.le_of_eq rfl) (hb hby at_64) (fun _ _ => ⟨rfl, e3, (by decide : 0 + 0 ≤ _), (by decide : 0 + 0 ≤ _)⟩)
  dsimp only [Pt.U, Pt.locs, Pt.cells, Pt.slots] at X4 l4 y4 z4 st4 hQ4
  subst l4 y4 z4
  obtain ⟨rfl, N4q, e4⟩ := hQ4
  have N4 := Fr.app N2 N4q
  obtain ⟨fs, hr, hrun, hended, hW, hsame⟩ := X4.leave (v := some (.int (1 : Int32))) (fun h => by rw [Bd.returns] at h; cases h)
  refine ⟨_, _, pre0 _ ?_, hrun, hended, _, _, rfl, ?_, ⟨_, rfl⟩, hW, hsame.mono (by decide) (by decide)⟩
  · show Steps p.tables e below (s₁.setTop (mkF m 0 #[.val (.int p0), .val (.long p1), .second, .val (.long p2), .second, .unset, .unset, .unset, .unset, .unset, .unset, .unset] [])) _
    refine XS.iloadN X0.here hx rfl (hb hby at_0) rfl ?_
    show Steps p.tables e below (s₁.setTop (mkF m 1 #[.val (.int p0), .val (.long p1), .second, .val (.long p2), .second, .unset, .unset, .unset, .unset, .unset, .unset, .unset] [(.int p0)])) _
    refine XS.iconst X0.here hx rfl (hb hby at_1) ?_
    show Steps p.tables e below (s₁.setTop (mkF m 2 #[.val (.int p0), .val (.long p1), .second, .val (.long p2), .second, .unset, .unset, .unset, .unset, .unset, .unset, .unset] [(.int (1 : Int32)), (.int p0)])) _
    refine XS.iand X0.here hx rfl (hb hby at_2) rfl ?_
    show Steps p.tables e below (s₁.setTop (mkF m 3 #[.val (.int p0), .val (.long p1), .second, .val (.long p2), .second, .unset, .unset, .unset, .unset, .unset, .unset, .unset] [(.int (p0 &&& (1 : Int32)))])) _
    rw [ha]
    show Steps p.tables e below (s₁.setTop (mkF m 3 #[.val (.int p0), .val (.long p1), .second, .val (.long p2), .second, .unset, .unset, .unset, .unset, .unset, .unset, .unset] [(.int (1 : Int32))])) _
    refine XS.ifNo X0.here hx rfl (hb hby at_3) rfl (by decide +kernel) ?_
    show Steps p.tables e below (s₁.setTop (mkF m 6 #[.val (.int p0), .val (.long p1), .second, .val (.long p2), .second, .unset, .unset, .unset, .unset, .unset, .unset, .unset] [])) _
    refine st1 _ ?_
    show Steps p.tables e below (T1.setTop (mkF m 9 #[.val (.int p0), .val (.long p1), .second, .val (.long p2), .second, .unset, .unset, .unset, .unset, .unset, .unset, .unset] [(.ref s_BUY)])) _
    refine XS.goto X1.here hx rfl (pc0 := 9) (pc' := 15) rfl (hb hby at_9) (by decide) (by decide) ?_
    show Steps p.tables e below (T1.setTop (mkF m 15 #[.val (.int p0), .val (.long p1), .second, .val (.long p2), .second, .unset, .unset, .unset, .unset, .unset, .unset, .unset] [(.ref s_BUY)])) _
    refine XS.astore X1.here hx rfl (hb hby at_15) rfl rfl (l' := #[.val (.int p0), .val (.long p1), .second, .val (.long p2), .second, .val (.ref s_BUY), .unset, .unset, .unset, .unset, .unset, .unset]) rfl ?_
    show Steps p.tables e below (T1.setTop (mkF m 17 #[.val (.int p0), .val (.long p1), .second, .val (.long p2), .second, .val (.ref s_BUY), .unset, .unset, .unset, .unset, .unset, .unset] [])) _
    refine XS.iloadN X1.here hx rfl (hb hby at_17) rfl ?_
    show Steps p.tables e below (T1.setTop (mkF m 18 #[.val (.int p0), .val (.long p1), .second, .val (.long p2), .second, .val (.ref s_BUY), .unset, .unset, .unset, .unset, .unset, .unset] [(.int p0)])) _
    refine XS.iconst X1.here hx rfl (hb hby at_18) ?_
    show Steps p.tables e below (T1.setTop (mkF m 19 #[.val (.int p0), .val (.long p1), .second, .val (.long p2), .second, .val (.ref s_BUY), .unset, .unset, .unset, .unset, .unset, .unset] [(.int (2 : Int32)), (.int p0)])) _
    refine XS.ishr X1.here hx rfl (hb hby at_19) rfl ?_
    show Steps p.tables e below (T1.setTop (mkF m 20 #[.val (.int p0), .val (.long p1), .second, .val (.long p2), .second, .val (.ref s_BUY), .unset, .unset, .unset, .unset, .unset, .unset] [(.int (p0 >>> ((2 : Int32) &&& 31)))])) _
    refine XS.iconst X1.here hx rfl (hb hby at_20) ?_
    show Steps p.tables e below (T1.setTop (mkF m 21 #[.val (.int p0), .val (.long p1), .second, .val (.long p2), .second, .val (.ref s_BUY), .unset, .unset, .unset, .unset, .unset, .unset] [(.int (3 : Int32)), (.int (p0 >>> ((2 : Int32) &&& 31)))])) _
    refine XS.iand X1.here hx rfl (hb hby at_21) rfl ?_
    show Steps p.tables e below (T1.setTop (mkF m 22 #[.val (.int p0), .val (.long p1), .second, .val (.long p2), .second, .val (.ref s_BUY), .unset, .unset, .unset, .unset, .unset, .unset] [(.int ((p0 >>> ((2 : Int32) &&& 31)) &&& (3 : Int32)))])) _
    refine XS.iconst X1.here hx rfl (hb hby at_22) ?_
    show Steps p.tables e below (T1.setTop (mkF m 23 #[.val (.int p0), .val (.long p1), .second, .val (.long p2), .second, .val (.ref s_BUY), .unset, .unset, .unset, .unset, .unset, .unset] [(.int (1 : Int32)), (.int ((p0 >>> ((2 : Int32) &&& 31)) &&& (3 : Int32)))])) _
    refine XS.isub X1.here hx rfl (hb hby at_23) rfl ?_
    show Steps p.tables e below (T1.setTop (mkF m 24 #[.val (.int p0), .val (.long p1), .second, .val (.long p2), .second, .val (.ref s_BUY), .unset, .unset, .unset, .unset, .unset, .unset] [(.int (((p0 >>> ((2 : Int32) &&& 31)) &&& (3 : Int32)) - (1 : Int32)))])) _
    refine XS.i2l X1.here hx rfl (hb hby at_24) rfl ?_
    show Steps p.tables e below (T1.setTop (mkF m 25 #[.val (.int p0), .val (.long p1), .second, .val (.long p2), .second, .val (.ref s_BUY), .unset, .unset, .unset, .unset, .unset, .unset] [(.long ((((p0 >>> ((2 : Int32) &&& 31)) &&& (3 : Int32)) - (1 : Int32)).toInt64))])) _
    refine XS.lstore X1.here hx rfl (hb hby at_25) rfl (l' := #[.val (.int p0), .val (.long p1), .second, .val (.long p2), .second, .val (.ref s_BUY), .val (.long ((((p0 >>> ((2 : Int32) &&& 31)) &&& (3 : Int32)) - (1 : Int32)).toInt64)), .second, .unset, .unset, .unset, .unset]) rfl ?_
    show Steps p.tables e below (T1.setTop (mkF m 27 #[.val (.int p0), .val (.long p1), .second, .val (.long p2), .second, .val (.ref s_BUY), .val (.long ((((p0 >>> ((2 : Int32) &&& 31)) &&& (3 : Int32)) - (1 : Int32)).toInt64)), .second, .unset, .unset, .unset, .unset] [])) _
    refine XS.iloadN X1.here hx rfl (hb hby at_27) rfl ?_
    show Steps p.tables e below (T1.setTop (mkF m 28 #[.val (.int p0), .val (.long p1), .second, .val (.long p2), .second, .val (.ref s_BUY), .val (.long ((((p0 >>> ((2 : Int32) &&& 31)) &&& (3 : Int32)) - (1 : Int32)).toInt64)), .second, .unset, .unset, .unset, .unset] [(.int p0)])) _
    refine XS.iconst X1.here hx rfl (hb hby at_28) ?_
    show Steps p.tables e below (T1.setTop (mkF m 29 #[.val (.int p0), .val (.long p1), .second, .val (.long p2), .second, .val (.ref s_BUY), .val (.long ((((p0 >>> ((2 : Int32) &&& 31)) &&& (3 : Int32)) - (1 : Int32)).toInt64)), .second, .unset, .unset, .unset, .unset] [(.int (2 : Int32)), (.int p0)])) _
    refine XS.iand X1.here hx rfl (hb hby at_29) rfl ?_
    show Steps p.tables e below (T1.setTop (mkF m 30 #[.val (.int p0), .val (.long p1), .second, .val (.long p2), .second, .val (.ref s_BUY), .val (.long ((((p0 >>> ((2 : Int32) &&& 31)) &&& (3 : Int32)) - (1 : Int32)).toInt64)), .second, .unset, .unset, .unset, .unset] [(.int (p0 &&& (2 : Int32)))])) _
    rw [hb1]
    show Steps p.tables e below (T1.setTop (mkF m 30 #[.val (.int p0), .val (.long p1), .second, .val (.long p2), .second, .val (.ref s_BUY), .val (.long ((((p0 >>> ((2 : Int32) &&& 31)) &&& (3 : Int32)) - (1 : Int32)).toInt64)), .second, .unset, .unset, .unset, .unset] [(.int (0 : Int32))])) _
    refine XS.ifYes X1.here hx rfl (pc0 := 30) (pc' := 40) rfl (hb hby at_30) rfl (by decide +kernel) (by decide) (by decide) ?_
    show Steps p.tables e below (T1.setTop (mkF m 40 #[.val (.int p0), .val (.long p1), .second, .val (.long p2), .second, .val (.ref s_BUY), .val (.long ((((p0 >>> ((2 : Int32) &&& 31)) &&& (3 : Int32)) - (1 : Int32)).toInt64)), .second, .unset, .unset, .unset, .unset] [])) _
    refine XS.lloadN X1.here hx rfl (hb hby at_40) rfl ?_
    show Steps p.tables e below (T1.setTop (mkF m 41 #[.val (.int p0), .val (.long p1), .second, .val (.long p2), .second, .val (.ref s_BUY), .val (.long ((((p0 >>> ((2 : Int32) &&& 31)) &&& (3 : Int32)) - (1 : Int32)).toInt64)), .second, .unset, .unset, .unset, .unset] [(.long p2)])) _
    refine XS.lstore X1.here hx rfl (hb hby at_41) rfl (l' := #[.val (.int p0), .val (.long p1), .second, .val (.long p2), .second, .val (.ref s_BUY), .val (.long ((((p0 >>> ((2 : Int32) &&& 31)) &&& (3 : Int32)) - (1 : Int32)).toInt64)), .second, .val (.long p2), .second, .unset, .unset]) rfl ?_
    show Steps p.tables e below (T1.setTop (mkF m 43 #[.val (.int p0), .val (.long p1), .second, .val (.long p2), .second, .val (.ref s_BUY), .val (.long ((((p0 >>> ((2 : Int32) &&& 31)) &&& (3 : Int32)) - (1 : Int32)).toInt64)), .second, .val (.long p2), .second, .unset, .unset] [])) _
    refine XS.aload X1.here hx rfl (hb hby at_43) rfl rfl ?_
    show Steps p.tables e below (T1.setTop (mkF m 45 #[.val (.int p0), .val (.long p1), .second, .val (.long p2), .second, .val (.ref s_BUY), .val (.long ((((p0 >>> ((2 : Int32) &&& 31)) &&& (3 : Int32)) - (1 : Int32)).toInt64)), .second, .val (.long p2), .second, .unset, .unset] [(.ref s_BUY)])) _
    refine XS.lloadN X1.here hx rfl (hb hby at_45) rfl ?_
    show Steps p.tables e below (T1.setTop (mkF m 46 #[.val (.int p0), .val (.long p1), .second, .val (.long p2), .second, .val (.ref s_BUY), .val (.long ((((p0 >>> ((2 : Int32) &&& 31)) &&& (3 : Int32)) - (1 : Int32)).toInt64)), .second, .val (.long p2), .second, .unset, .unset] [(.long p1), (.ref s_BUY)])) _
    refine XS.lload X1.here hx rfl (hb hby at_46) rfl ?_
    show Steps p.tables e below (T1.setTop (mkF m 48 #[.val (.int p0), .val (.long p1), .second, .val (.long p2), .second, .val (.ref s_BUY), .val (.long ((((p0 >>> ((2 : Int32) &&& 31)) &&& (3 : Int32)) - (1 : Int32)).toInt64)), .second, .val (.long p2), .second, .unset, .unset] [(.long p2), (.long p1), (.ref s_BUY)])) _
    refine st2.trans ?_
    show Steps p.tables e below (T2.setTop (mkF m 51 #[.val (.int p0), .val (.long p1), .second, .val (.long p2), .second, .val (.ref s_BUY), .val (.long ((((p0 >>> ((2 : Int32) &&& 31)) &&& (3 : Int32)) - (1 : Int32)).toInt64)), .second, .val (.long p2), .second, .unset, .unset] [(.int (0 : Int32))])) _
    refine XS.istore X2.here hx rfl (hb hby at_51) rfl (l' := #[.val (.int p0), .val (.long p1), .second, .val (.long p2), .second, .val (.ref s_BUY), .val (.long ((((p0 >>> ((2 : Int32) &&& 31)) &&& (3 : Int32)) - (1 : Int32)).toInt64)), .second, .val (.long p2), .second, .val (.int (0 : Int32)), .unset]) rfl ?_
    show Steps p.tables e below (T2.setTop (mkF m 53 #[.val (.int p0), .val (.long p1), .second, .val (.long p2), .second, .val (.ref s_BUY), .val (.long ((((p0 >>> ((2 : Int32) &&& 31)) &&& (3 : Int32)) - (1 : Int32)).toInt64)), .second, .val (.long p2), .second, .val (.int (0 : Int32)), .unset] [])) _
    refine XS.aload X2.here hx rfl (hb hby at_53) rfl rfl ?_
    show Steps p.tables e below (T2.setTop (mkF m 55 #[.val (.int p0), .val (.long p1), .second, .val (.long p2), .second, .val (.ref s_BUY), .val (.long ((((p0 >>> ((2 : Int32) &&& 31)) &&& (3 : Int32)) - (1 : Int32)).toInt64)), .second, .val (.long p2), .second, .val (.int (0 : Int32)), .unset] [(.ref s_BUY)])) _
    refine st3 _ ?_
    show Steps p.tables e below (T3.setTop (mkF m 58 #[.val (.int p0), .val (.long p1), .second, .val (.long p2), .second, .val (.ref s_BUY), .val (.long ((((p0 >>> ((2 : Int32) &&& 31)) &&& (3 : Int32)) - (1 : Int32)).toInt64)), .second, .val (.long p2), .second, .val (.int (0 : Int32)), .unset] [(.ref s_BUY), (.ref s_BUY)])) _
    refine Jvm.RoadKit.acmp (g := (mkF m 58 #[.val (.int p0), .val (.long p1), .second, .val (.long p2), .second, .val (.ref s_BUY), .val (.long ((((p0 >>> ((2 : Int32) &&& 31)) &&& (3 : Int32)) - (1 : Int32)).toInt64)), .second, .val (.long p2), .second, .val (.int (0 : Int32)), .unset] [(.ref s_BUY), (.ref s_BUY)])) X3 hx rfl rfl rfl (pc0 := 58) (pc' := 61) (same := true) rfl (hb hby at_58) rfl (decide_eq_true rfl) (by decide) (by decide) ?_
    show Steps p.tables e below (T3.setTop (mkF m 61 #[.val (.int p0), .val (.long p1), .second, .val (.long p2), .second, .val (.ref s_BUY), .val (.long ((((p0 >>> ((2 : Int32) &&& 31)) &&& (3 : Int32)) - (1 : Int32)).toInt64)), .second, .val (.long p2), .second, .val (.int (0 : Int32)), .unset] [])) _
    refine XS.lloadN X3.here hx rfl (hb hby at_61) rfl ?_
    show Steps p.tables e below (T3.setTop (mkF m 62 #[.val (.int p0), .val (.long p1), .second, .val (.long p2), .second, .val (.ref s_BUY), .val (.long ((((p0 >>> ((2 : Int32) &&& 31)) &&& (3 : Int32)) - (1 : Int32)).toInt64)), .second, .val (.long p2), .second, .val (.int (0 : Int32)), .unset] [(.long p1)])) _
    refine XS.lload X3.here hx rfl (hb hby at_62) rfl ?_
    show Steps p.tables e below (T3.setTop (mkF m 64 #[.val (.int p0), .val (.long p1), .second, .val (.long p2), .second, .val (.ref s_BUY), .val (.long ((((p0 >>> ((2 : Int32) &&& 31)) &&& (3 : Int32)) - (1 : Int32)).toInt64)), .second, .val (.long p2), .second, .val (.int (0 : Int32)), .unset] [(.long p2), (.long p1)])) _
    refine st4 _ ?_
    show Steps p.tables e below (T4.setTop (mkF m 67 #[.val (.int p0), .val (.long p1), .second, .val (.long p2), .second, .val (.ref s_BUY), .val (.long ((((p0 >>> ((2 : Int32) &&& 31)) &&& (3 : Int32)) - (1 : Int32)).toInt64)), .second, .val (.long p2), .second, .val (.int (0 : Int32)), .unset] [(.long p2)])) _
    refine XS.lloadN X4.here hx rfl (hb hby at_67) rfl ?_
    show Steps p.tables e below (T4.setTop (mkF m 68 #[.val (.int p0), .val (.long p1), .second, .val (.long p2), .second, .val (.ref s_BUY), .val (.long ((((p0 >>> ((2 : Int32) &&& 31)) &&& (3 : Int32)) - (1 : Int32)).toInt64)), .second, .val (.long p2), .second, .val (.int (0 : Int32)), .unset] [(.long p1), (.long p2)])) _
    refine XS.lcmp X4.here hx rfl (hb hby at_68) rfl ?_
    show Steps p.tables e below (T4.setTop (mkF m 69 #[.val (.int p0), .val (.long p1), .second, .val (.long p2), .second, .val (.ref s_BUY), .val (.long ((((p0 >>> ((2 : Int32) &&& 31)) &&& (3 : Int32)) - (1 : Int32)).toInt64)), .second, .val (.long p2), .second, .val (.int (0 : Int32)), .unset] [(.int (lcmpW p2 p1))])) _
    rw [own_lc_gt hc]
    show Steps p.tables e below (T4.setTop (mkF m 69 #[.val (.int p0), .val (.long p1), .second, .val (.long p2), .second, .val (.ref s_BUY), .val (.long ((((p0 >>> ((2 : Int32) &&& 31)) &&& (3 : Int32)) - (1 : Int32)).toInt64)), .second, .val (.long p2), .second, .val (.int (0 : Int32)), .unset] [(.int (1 : Int32))])) _
    refine XS.ifYes X4.here hx rfl (pc0 := 69) (pc' := 76) rfl (hb hby at_69) rfl (by decide +kernel) (by decide) (by decide) ?_
    show Steps p.tables e below (T4.setTop (mkF m 76 #[.val (.int p0), .val (.long p1), .second, .val (.long p2), .second, .val (.ref s_BUY), .val (.long ((((p0 >>> ((2 : Int32) &&& 31)) &&& (3 : Int32)) - (1 : Int32)).toInt64)), .second, .val (.long p2), .second, .val (.int (0 : Int32)), .unset] [])) _
    refine XS.iconst X4.here hx rfl (hb hby at_76) ?_
    show Steps p.tables e below (T4.setTop (mkF m 77 #[.val (.int p0), .val (.long p1), .second, .val (.long p2), .second, .val (.ref s_BUY), .val (.long ((((p0 >>> ((2 : Int32) &&& 31)) &&& (3 : Int32)) - (1 : Int32)).toInt64)), .second, .val (.long p2), .second, .val (.int (0 : Int32)), .unset] [(.int (0 : Int32))])) _
    refine XS.istore X4.here hx rfl (hb hby at_77) rfl (l' := #[.val (.int p0), .val (.long p1), .second, .val (.long p2), .second, .val (.ref s_BUY), .val (.long ((((p0 >>> ((2 : Int32) &&& 31)) &&& (3 : Int32)) - (1 : Int32)).toInt64)), .second, .val (.long p2), .second, .val (.int (0 : Int32)), .val (.int (0 : Int32))]) rfl ?_
    show Steps p.tables e below (T4.setTop (mkF m 79 #[.val (.int p0), .val (.long p1), .second, .val (.long p2), .second, .val (.ref s_BUY), .val (.long ((((p0 >>> ((2 : Int32) &&& 31)) &&& (3 : Int32)) - (1 : Int32)).toInt64)), .second, .val (.long p2), .second, .val (.int (0 : Int32)), .val (.int (0 : Int32))] [])) _
    refine XS.goto X4.here hx rfl (pc0 := 79) (pc' := 100) rfl (hb hby at_79) (by decide) (by decide) ?_
    show Steps p.tables e below (T4.setTop (mkF m 100 #[.val (.int p0), .val (.long p1), .second, .val (.long p2), .second, .val (.ref s_BUY), .val (.long ((((p0 >>> ((2 : Int32) &&& 31)) &&& (3 : Int32)) - (1 : Int32)).toInt64)), .second, .val (.long p2), .second, .val (.int (0 : Int32)), .val (.int (0 : Int32))] [])) _
    refine XS.iload X4.here hx rfl (hb hby at_100) rfl ?_
    show Steps p.tables e below (T4.setTop (mkF m 102 #[.val (.int p0), .val (.long p1), .second, .val (.long p2), .second, .val (.ref s_BUY), .val (.long ((((p0 >>> ((2 : Int32) &&& 31)) &&& (3 : Int32)) - (1 : Int32)).toInt64)), .second, .val (.long p2), .second, .val (.int (0 : Int32)), .val (.int (0 : Int32))] [(.int (0 : Int32))])) _
    refine XS.iload X4.here hx rfl (hb hby at_102) rfl ?_
    show Steps p.tables e below (T4.setTop (mkF m 104 #[.val (.int p0), .val (.long p1), .second, .val (.long p2), .second, .val (.ref s_BUY), .val (.long ((((p0 >>> ((2 : Int32) &&& 31)) &&& (3 : Int32)) - (1 : Int32)).toInt64)), .second, .val (.long p2), .second, .val (.int (0 : Int32)), .val (.int (0 : Int32))] [(.int (0 : Int32)), (.int (0 : Int32))])) _
    refine XS.icmpNo X4.here hx rfl (hb hby at_104) rfl (by decide +kernel) ?_
    show Steps p.tables e below (T4.setTop (mkF m 107 #[.val (.int p0), .val (.long p1), .second, .val (.long p2), .second, .val (.ref s_BUY), .val (.long ((((p0 >>> ((2 : Int32) &&& 31)) &&& (3 : Int32)) - (1 : Int32)).toInt64)), .second, .val (.long p2), .second, .val (.int (0 : Int32)), .val (.int (0 : Int32))] [])) _
    refine XS.iconst X4.here hx rfl (hb hby at_107) ?_
    show Steps p.tables e below (T4.setTop (mkF m 108 #[.val (.int p0), .val (.long p1), .second, .val (.long p2), .second, .val (.ref s_BUY), .val (.long ((((p0 >>> ((2 : Int32) &&& 31)) &&& (3 : Int32)) - (1 : Int32)).toInt64)), .second, .val (.long p2), .second, .val (.int (0 : Int32)), .val (.int (0 : Int32))] [(.int (1 : Int32))])) _
    refine XS.goto X4.here hx rfl (pc0 := 108) (pc' := 112) rfl (hb hby at_108) (by decide) (by decide) ?_
    show Steps p.tables e below (T4.setTop (mkF m 112 #[.val (.int p0), .val (.long p1), .second, .val (.long p2), .second, .val (.ref s_BUY), .val (.long ((((p0 >>> ((2 : Int32) &&& 31)) &&& (3 : Int32)) - (1 : Int32)).toInt64)), .second, .val (.long p2), .second, .val (.int (0 : Int32)), .val (.int (0 : Int32))] [(.int (1 : Int32))])) _
    exact retN X4 hx (t := .boolean) Bd.returns (by simp) (hb hby at_112) hr
  · exact ⟨rfl, N4, e4⟩
set_option maxRecDepth 65536 in
set_option maxHeartbeats 40000000 in
theorem r27 (l : Launch) (Z : State) (a0 : Array Value) (hw : ∀ d ∈ tables_1, d.before a0 Z = true) (ws : List Jvm.Cond) (h0 : Heap) (n0 : Nat) (s_SELL : Addr) (s_BUY : Addr) (K : Ctx Z h0 s_SELL s_BUY) (p0 : Int32) (p1 : Int64) (hc : (p1 + ((((p0 >>> ((2 : Int32) &&& 31)) &&& (3 : Int32)) - (1 : Int32)).toInt64)) < p1) :
    MetFree l (⟨"com/example/bookfence/bookfence/engine/Side", "allows", "(JJ)Z"⟩ : MethodName) (head1 (Jvm.Cond.code (⟨"com/example/bookfence/bookfence/engine/Side", "allows", "(JJ)Z"⟩ : MethodName) prog_44_method_5_code 5 (some .boolean) :: ws) ({ frames := 0, cells := 0, slots := 0, locals := 0 } : Room)) (fun a U => a = #[(.ref s_BUY), (.long p1), (.long (p1 + ((((p0 >>> ((2 : Int32) &&& 31)) &&& (3 : Int32)) - (1 : Int32)).toInt64)))] ∧ Z.Warmed39 U.vm ∧ U.heap = h0) (fun _ _ _ _ _ => True) (fun _ U o U' => ∃ v L, o = .returned v ∧ QV (.int (1 : Int32)) h0 n0 v U'.heap L ∧ FrameEnd U o U' L ({ frames := 0, cells := 0, slots := 0, locals := 0 } : Room).cells ({ frames := 0, cells := 0, slots := 0, locals := 0 } : Room).slots) := by
  obtain ⟨S_SELL, S_BUY, ne_BUY_SELL, E_SELL, E_BUY⟩ := id K
  refine MetFree.of_bodySF (plainFor_of_name pn0) hisR ?_
  intro p e s m args below meth c s₁ Bd hml0 hP hK
  obtain ⟨rfl, hZ, hh⟩ := hP
  have hx := Bd.exec
  have hby := Bd.bytes
  have hml : c.maxLocals = 5 := hml0
  have hown : s.vm.findClass "com/example/bookfence/bookfence/engine/Side" = some m.cls := findClass_of_methodNamed Bd.named
  have X0 : Stand p l e ({ frames := 0, cells := 0, slots := 0, locals := 0 } : Room) s m #[(.ref s_BUY), (.long p1), (.long (p1 + ((((p0 >>> ((2 : Int32) &&& 31)) &&& (3 : Int32)) - (1 : Int32)).toInt64)))] below meth c s₁ [] 0 0 := Stand.of_body Bd
  have e0 : s₁.heap = h0 := by rw [← hh, Bd.state]; rfl
  have N0 := Fr.nil n0
  have pre0 : ∀ t, Steps p.tables e below (s₁.setTop (mkF m 0 #[.val (.ref s_BUY), .val (.long p1), .second, .val (.long (p1 + ((((p0 >>> ((2 : Int32) &&& 31)) &&& (3 : Int32)) - (1 : Int32)).toInt64))), .second] [])) t → Steps p.tables e below (s₁.setTop (entryFrame m #[(.ref s_BUY), (.long p1), (.long (p1 + ((((p0 >>> ((2 : Int32) &&& 31)) &&& (3 : Int32)) - (1 : Int32)).toInt64)))] 5)) t := fun t k => castTop (by first | (simp [entryFrame, mkF, argsToLocals, Value.category]; done) | rfl) k
  obtain ⟨T1, X1, e1, st1⟩ := getS X0 hx hZ hown (host := "") (hw _ (List.mem_of_getElem? (i := 8) rfl)) Via.refl e0 S_BUY (g := (mkF m 1 #[.val (.ref s_BUY), .val (.long p1), .second, .val (.long (p1 + ((((p0 >>> ((2 : Int32) &&& 31)) &&& (3 : Int32)) - (1 : Int32)).toInt64))), .second] [(.ref s_BUY)])) rfl (hb hby d0_1)
  obtain ⟨fs, hr, hrun, hended, hW, hsame⟩ := X1.leave (v := some (.int (1 : Int32))) (fun h => by rw [Bd.returns] at h; cases h)
  refine ⟨_, _, pre0 _ ?_, hrun, hended, _, _, rfl, ?_, ⟨_, rfl⟩, hW, hsame.mono (by decide) (by decide)⟩
  · show Steps p.tables e below (s₁.setTop (mkF m 0 #[.val (.ref s_BUY), .val (.long p1), .second, .val (.long (p1 + ((((p0 >>> ((2 : Int32) &&& 31)) &&& (3 : Int32)) - (1 : Int32)).toInt64))), .second] [])) _
    refine XS.aloadN X0.here hx rfl (hb hby d0_0) rfl rfl ?_
    show Steps p.tables e below (s₁.setTop (mkF m 1 #[.val (.ref s_BUY), .val (.long p1), .second, .val (.long (p1 + ((((p0 >>> ((2 : Int32) &&& 31)) &&& (3 : Int32)) - (1 : Int32)).toInt64))), .second] [(.ref s_BUY)])) _
    refine st1 _ ?_
    show Steps p.tables e below (T1.setTop (mkF m 4 #[.val (.ref s_BUY), .val (.long p1), .second, .val (.long (p1 + ((((p0 >>> ((2 : Int32) &&& 31)) &&& (3 : Int32)) - (1 : Int32)).toInt64))), .second] [(.ref s_BUY), (.ref s_BUY)])) _
    refine Jvm.RoadKit.acmp (g := (mkF m 4 #[.val (.ref s_BUY), .val (.long p1), .second, .val (.long (p1 + ((((p0 >>> ((2 : Int32) &&& 31)) &&& (3 : Int32)) - (1 : Int32)).toInt64))), .second] [(.ref s_BUY), (.ref s_BUY)])) X1 hx rfl rfl rfl (pc0 := 4) (pc' := 7) (same := true) rfl (hb hby d0_4) rfl (decide_eq_true rfl) (by decide) (by decide) ?_
    show Steps p.tables e below (T1.setTop (mkF m 7 #[.val (.ref s_BUY), .val (.long p1), .second, .val (.long (p1 + ((((p0 >>> ((2 : Int32) &&& 31)) &&& (3 : Int32)) - (1 : Int32)).toInt64))), .second] [])) _
    refine XS.lloadN X1.here hx rfl (hb hby d0_7) rfl ?_
    show Steps p.tables e below (T1.setTop (mkF m 8 #[.val (.ref s_BUY), .val (.long p1), .second, .val (.long (p1 + ((((p0 >>> ((2 : Int32) &&& 31)) &&& (3 : Int32)) - (1 : Int32)).toInt64))), .second] [(.long (p1 + ((((p0 >>> ((2 : Int32) &&& 31)) &&& (3 : Int32)) - (1 : Int32)).toInt64)))])) _
    refine XS.lloadN X1.here hx rfl (hb hby d0_8) rfl ?_
    show Steps p.tables e below (T1.setTop (mkF m 9 #[.val (.ref s_BUY), .val (.long p1), .second, .val (.long (p1 + ((((p0 >>> ((2 : Int32) &&& 31)) &&& (3 : Int32)) - (1 : Int32)).toInt64))), .second] [(.long p1), (.long (p1 + ((((p0 >>> ((2 : Int32) &&& 31)) &&& (3 : Int32)) - (1 : Int32)).toInt64)))])) _
    refine XS.lcmp X1.here hx rfl (hb hby d0_9) rfl ?_
    show Steps p.tables e below (T1.setTop (mkF m 10 #[.val (.ref s_BUY), .val (.long p1), .second, .val (.long (p1 + ((((p0 >>> ((2 : Int32) &&& 31)) &&& (3 : Int32)) - (1 : Int32)).toInt64))), .second] [(.int (lcmpW (p1 + ((((p0 >>> ((2 : Int32) &&& 31)) &&& (3 : Int32)) - (1 : Int32)).toInt64)) p1))])) _
    rw [own_lc_lt hc]
    show Steps p.tables e below (T1.setTop (mkF m 10 #[.val (.ref s_BUY), .val (.long p1), .second, .val (.long (p1 + ((((p0 >>> ((2 : Int32) &&& 31)) &&& (3 : Int32)) - (1 : Int32)).toInt64))), .second] [(.int (-1 : Int32))])) _
    refine XS.ifNo X1.here hx rfl (hb hby d0_10) rfl (by decide +kernel) ?_
    show Steps p.tables e below (T1.setTop (mkF m 13 #[.val (.ref s_BUY), .val (.long p1), .second, .val (.long (p1 + ((((p0 >>> ((2 : Int32) &&& 31)) &&& (3 : Int32)) - (1 : Int32)).toInt64))), .second] [])) _
    refine XS.iconst X1.here hx rfl (hb hby d0_13) ?_
    show Steps p.tables e below (T1.setTop (mkF m 14 #[.val (.ref s_BUY), .val (.long p1), .second, .val (.long (p1 + ((((p0 >>> ((2 : Int32) &&& 31)) &&& (3 : Int32)) - (1 : Int32)).toInt64))), .second] [(.int (1 : Int32))])) _
    refine XS.goto X1.here hx rfl (pc0 := 14) (pc' := 32) rfl (hb hby d0_14) (by decide) (by decide) ?_
    show Steps p.tables e below (T1.setTop (mkF m 32 #[.val (.ref s_BUY), .val (.long p1), .second, .val (.long (p1 + ((((p0 >>> ((2 : Int32) &&& 31)) &&& (3 : Int32)) - (1 : Int32)).toInt64))), .second] [(.int (1 : Int32))])) _
    exact retN X1 hx (t := .boolean) Bd.returns (by simp) (hb hby d0_32) hr
  · exact ⟨rfl, N0, e1⟩
set_option maxRecDepth 65536 in
set_option maxHeartbeats 40000000 in
theorem r28 (l : Launch) (Z : State) (a0 : Array Value) (hw : ∀ d ∈ tables_1, d.before a0 Z = true) (ws : List Jvm.Cond) (h0 : Heap) (n0 : Nat) (s_SELL : Addr) (s_BUY : Addr) (K : Ctx Z h0 s_SELL s_BUY) (p0 : Int32) (p1 : Int64) (hc : (p1 + ((((p0 >>> ((2 : Int32) &&& 31)) &&& (3 : Int32)) - (1 : Int32)).toInt64)) < p1) :
    MetFree l (⟨"java/lang/Math", "max", "(JJ)J"⟩ : MethodName) (head1 (Jvm.Cond.code (⟨"java/lang/Math", "max", "(JJ)J"⟩ : MethodName) jdk_29_method_66_code 4 (some .long) :: ws) ({ frames := 0, cells := 0, slots := 0, locals := 0 } : Room)) (fun a U => a = #[(.long p1), (.long (p1 + ((((p0 >>> ((2 : Int32) &&& 31)) &&& (3 : Int32)) - (1 : Int32)).toInt64)))] ∧ Z.Warmed39 U.vm ∧ U.heap = h0) (fun _ _ _ _ _ => True) (fun _ U o U' => ∃ v L, o = .returned v ∧ QV (.long p1) h0 n0 v U'.heap L ∧ FrameEnd U o U' L ({ frames := 0, cells := 0, slots := 0, locals := 0 } : Room).cells ({ frames := 0, cells := 0, slots := 0, locals := 0 } : Room).slots) := by
  obtain ⟨S_SELL, S_BUY, ne_BUY_SELL, E_SELL, E_BUY⟩ := id K
  refine MetFree.of_bodySF (Jvm.Free.JP.mathPlain rfl (by decide +kernel)) hisR ?_
  intro p e s m args below meth c s₁ Bd hml0 hP hK
  obtain ⟨rfl, hZ, hh⟩ := hP
  have hx := Bd.exec
  have hby := Bd.bytes
  have hml : c.maxLocals = 4 := hml0
  have hown : s.vm.findClass "java/lang/Math" = some m.cls := findClass_of_methodNamed Bd.named
  have X0 : Stand p l e ({ frames := 0, cells := 0, slots := 0, locals := 0 } : Room) s m #[(.long p1), (.long (p1 + ((((p0 >>> ((2 : Int32) &&& 31)) &&& (3 : Int32)) - (1 : Int32)).toInt64)))] below meth c s₁ [] 0 0 := Stand.of_body Bd
  have e0 : s₁.heap = h0 := by rw [← hh, Bd.state]; rfl
  have N0 := Fr.nil n0
  have pre0 : ∀ t, Steps p.tables e below (s₁.setTop (mkF m 0 #[.val (.long p1), .second, .val (.long (p1 + ((((p0 >>> ((2 : Int32) &&& 31)) &&& (3 : Int32)) - (1 : Int32)).toInt64))), .second] [])) t → Steps p.tables e below (s₁.setTop (entryFrame m #[(.long p1), (.long (p1 + ((((p0 >>> ((2 : Int32) &&& 31)) &&& (3 : Int32)) - (1 : Int32)).toInt64)))] 4)) t := fun t k => castTop (by first | (simp [entryFrame, mkF, argsToLocals, Value.category]; done) | rfl) k
  obtain ⟨fs, hr, hrun, hended, hW, hsame⟩ := X0.leave (v := some (.long p1)) (fun h => by rw [Bd.returns] at h; cases h)
  refine ⟨_, _, pre0 _ ?_, hrun, hended, _, _, rfl, ?_, ⟨_, rfl⟩, hW, hsame.mono (by decide) (by decide)⟩
  · show Steps p.tables e below (s₁.setTop (mkF m 0 #[.val (.long p1), .second, .val (.long (p1 + ((((p0 >>> ((2 : Int32) &&& 31)) &&& (3 : Int32)) - (1 : Int32)).toInt64))), .second] [])) _
    refine XS.lloadN X0.here hx rfl (hb hby d2_0) rfl ?_
    show Steps p.tables e below (s₁.setTop (mkF m 1 #[.val (.long p1), .second, .val (.long (p1 + ((((p0 >>> ((2 : Int32) &&& 31)) &&& (3 : Int32)) - (1 : Int32)).toInt64))), .second] [(.long p1)])) _
    refine XS.lloadN X0.here hx rfl (hb hby d2_1) rfl ?_
    show Steps p.tables e below (s₁.setTop (mkF m 2 #[.val (.long p1), .second, .val (.long (p1 + ((((p0 >>> ((2 : Int32) &&& 31)) &&& (3 : Int32)) - (1 : Int32)).toInt64))), .second] [(.long (p1 + ((((p0 >>> ((2 : Int32) &&& 31)) &&& (3 : Int32)) - (1 : Int32)).toInt64))), (.long p1)])) _
    refine XS.lcmp X0.here hx rfl (hb hby d2_2) rfl ?_
    show Steps p.tables e below (s₁.setTop (mkF m 3 #[.val (.long p1), .second, .val (.long (p1 + ((((p0 >>> ((2 : Int32) &&& 31)) &&& (3 : Int32)) - (1 : Int32)).toInt64))), .second] [(.int (lcmpW p1 (p1 + ((((p0 >>> ((2 : Int32) &&& 31)) &&& (3 : Int32)) - (1 : Int32)).toInt64))))])) _
    rw [own_lr_lt hc]
    show Steps p.tables e below (s₁.setTop (mkF m 3 #[.val (.long p1), .second, .val (.long (p1 + ((((p0 >>> ((2 : Int32) &&& 31)) &&& (3 : Int32)) - (1 : Int32)).toInt64))), .second] [(.int (1 : Int32))])) _
    refine XS.ifNo X0.here hx rfl (hb hby d2_3) rfl (by decide +kernel) ?_
    show Steps p.tables e below (s₁.setTop (mkF m 6 #[.val (.long p1), .second, .val (.long (p1 + ((((p0 >>> ((2 : Int32) &&& 31)) &&& (3 : Int32)) - (1 : Int32)).toInt64))), .second] [])) _
    refine XS.lloadN X0.here hx rfl (hb hby d2_6) rfl ?_
    show Steps p.tables e below (s₁.setTop (mkF m 7 #[.val (.long p1), .second, .val (.long (p1 + ((((p0 >>> ((2 : Int32) &&& 31)) &&& (3 : Int32)) - (1 : Int32)).toInt64))), .second] [(.long p1)])) _
    refine XS.goto X0.here hx rfl (pc0 := 7) (pc' := 11) rfl (hb hby d2_7) (by decide) (by decide) ?_
    show Steps p.tables e below (s₁.setTop (mkF m 11 #[.val (.long p1), .second, .val (.long (p1 + ((((p0 >>> ((2 : Int32) &&& 31)) &&& (3 : Int32)) - (1 : Int32)).toInt64))), .second] [(.long p1)])) _
    exact retOut X0 hx (i := .lreturn) Bd.returns rfl (Or.inr (Or.inl ⟨rfl, rfl, _, rfl⟩)) (hb hby d2_11) hr
  · exact ⟨rfl, N0, e0⟩
set_option maxRecDepth 65536 in
set_option maxHeartbeats 40000000 in
theorem law_k1_2_lt (l : Launch) (Z : State) (a0 : Array Value) (hw : ∀ d ∈ tables_1, d.before a0 Z = true) (ws : List Jvm.Cond) (h0 : Heap) (n0 : Nat) (s_SELL : Addr) (s_BUY : Addr) (K : Ctx Z h0 s_SELL s_BUY) (p0 : Int32) (p1 : Int64) (p2 : Int64) (ha : (p0 &&& (1 : Int32)) = (1 : Int32)) (hb1 : (p0 &&& (2 : Int32)) = (2 : Int32)) (hc : (p1 + ((((p0 >>> ((2 : Int32) &&& 31)) &&& (3 : Int32)) - (1 : Int32)).toInt64)) < p1) :
    MetFree l x (head1 (Jvm.Cond.code x code maxLocals ret :: ws) room_1) (fun a U => a = #[(.int p0), (.long p1), (.long p2)] ∧ Z.Warmed39 U.vm ∧ U.heap = h0) (fun _ _ _ _ _ => True) (fun _ U o U' => ∃ v L, o = .returned v ∧ QV (.int (1 : Int32)) h0 n0 v U'.heap L ∧ FrameEnd U o U' L room_1.cells room_1.slots) := by
  obtain ⟨S_SELL, S_BUY, ne_BUY_SELL, E_SELL, E_BUY⟩ := id K
  refine MetFree.of_bodySF (plainFor_of_name pn3) hisR ?_
  intro p e s m args below meth c s₁ Bd hml0 hP hK
  obtain ⟨rfl, hZ, hh⟩ := hP
  have hx := Bd.exec
  have hby := Bd.bytes
  have hml : c.maxLocals = 12 := hml0
  have hown : s.vm.findClass "com/example/bookfence/bookfence/engine/SideAllowsPinLaw" = some m.cls := findClass_of_methodNamed Bd.named
  have X0 : Stand p l e room_1 s m #[(.int p0), (.long p1), (.long p2)] below meth c s₁ [] 0 0 := Stand.of_body Bd
  have e0 : s₁.heap = h0 := by rw [← hh, Bd.state]; rfl
  have N0 := Fr.nil n0
  have pre0 : ∀ t, Steps p.tables e below (s₁.setTop (mkF m 0 #[.val (.int p0), .val (.long p1), .second, .val (.long p2), .second, .unset, .unset, .unset, .unset, .unset, .unset, .unset] [])) t → Steps p.tables e below (s₁.setTop (entryFrame m #[(.int p0), (.long p1), (.long p2)] maxLocals)) t := fun t k => castTop (by first | (simp [entryFrame, mkF, argsToLocals, Value.category, maxLocals]; done) | rfl) k
  obtain ⟨T1, X1, e1, st1⟩ := getS X0 hx hZ hown (host := "") (hw _ (List.mem_of_getElem? (i := 10) rfl)) Via.refl e0 S_BUY (g := (mkF m 6 #[.val (.int p0), .val (.long p1), .second, .val (.long p2), .second, .unset, .unset, .unset, .unset, .unset, .unset, .unset] [])) rfl (hb hby at_6)
  obtain ⟨cq2, kq2, q2a, q2b, q2c⟩ := isOf hZ e1 E_BUY
  obtain ⟨_, _, ⟨T2, L2, k2, n2⟩, -, X2, ⟨Lc2, hQ2, l2, y2, z2⟩, st2⟩ := X1.virtualBack hx (y := (⟨"com/example/bookfence/bookfence/engine/Side", "allows", "(JJ)Z"⟩ : MethodName)) (z := (⟨"com/example/bookfence/bookfence/engine/Side", "allows", "(JJ)Z"⟩ : MethodName)) hown (mvT hZ (hw _ (List.mem_of_getElem? (i := 3) rfl))) (mvT hZ (hw _ (List.mem_of_getElem? (i := 4) rfl))) (notFace_of_selects (args := #[]) (mvT hZ (hw _ (List.mem_of_getElem? (i := 6) rfl)))) (mvT hZ (hw _ (List.mem_of_getElem? (i := 6) rfl))) (mvT hZ (hw _ (List.mem_of_getElem? (i := 5) rfl))) (by decide) (backOf (W := 0) (r27 l Z a0 hw [] h0 n0 s_SELL s_BUY K p0 p1 hc) hZ (hw _ (List.mem_of_getElem? (i := 7) rfl)) (hw _ (List.mem_of_getElem? (i := 1) rfl)) (by decide) (by decide)) q2a q2c (g := (mkF m 48 #[.val (.int p0), .val (.long p1), .second, .val (.long p2), .second, .val (.ref s_BUY), .val (.long ((((p0 >>> ((2 : Int32) &&& 31)) &&& (3 : Int32)) - (1 : Int32)).toInt64)), .second, .val (.long (p1 + ((((p0 >>> ((2 : Int32) &&& 31)) &&& (3 : Int32)) - (1 : Int32)).toInt64))), .second, .unset, .unset] [(.long (p1 + ((((p0 >>> ((2 : Int32) &&& 31)) &&& (3 : Int32)) - (1 : Int32)).toInt64))), (.long p1), (.ref s_BUY)])) rfl (by rw [hml]; rfl) (Steps.refl _) (argsL := [(.long p1), (.long (p1 + ((((p0 >>> ((2 : Int32) &&& 31)) &&& (3 : Int32)) - (1 : Int32)).toInt64)))]) (rest := []) (lenOf pd0 rfl) rfl (by show 2 * 0 + _ ≤ _; exact Nat.le_of_eq rfl) (hb hby at_48) (fun _ _ => ⟨rfl, e1, (by decide : 0 + 0 ≤ _), (by decide : 0 + 0 ≤ _)⟩)
  dsimp only [Pt.U, Pt.locs, Pt.cells, Pt.slots] at X2 l2 y2 z2 st2 hQ2
  subst l2 y2 z2
  obtain ⟨rfl, N2q, e2⟩ := hQ2
  have N2 := Fr.app N0 N2q
  obtain ⟨T3, X3, e3, st3⟩ := getS X2 hx hZ hown (host := "") (hw _ (List.mem_of_getElem? (i := 10) rfl)) Via.refl e2 S_BUY (g := (mkF m 55 #[.val (.int p0), .val (.long p1), .second, .val (.long p2), .second, .val (.ref s_BUY), .val (.long ((((p0 >>> ((2 : Int32) &&& 31)) &&& (3 : Int32)) - (1 : Int32)).toInt64)), .second, .val (.long (p1 + ((((p0 >>> ((2 : Int32) &&& 31)) &&& (3 : Int32)) - (1 : Int32)).toInt64))), .second, .val (.int (1 : Int32)), .unset] [(.ref s_BUY)])) rfl (hb hby at_55)
  obtain ⟨_, _, ⟨T4, L4, k4, n4⟩, -, X4, ⟨Lc4, hQ4, l4, y4, z4⟩, st4⟩ := Jvm.LawKit.callS X3 hx (y := (⟨"java/lang/Math", "max", "(JJ)J"⟩ : MethodName)) hown (mvT hZ (hw _ (List.mem_of_getElem? (i := 15) rfl))) (mvT hZ (hw _ (List.mem_of_getElem? (i := 16) rfl))) (mvT hZ (hw _ (List.mem_of_getElem? (i := 13) rfl))) (mvT hZ (hw _ (List.mem_of_getElem? (i := 17) rfl))) (by decide) (backOf (W := 0) (r28 l Z a0 hw [] h0 n0 s_SELL s_BUY K p0 p1 hc) hZ (hw _ (List.mem_of_getElem? (i := 17) rfl)) (hw _ (List.mem_of_getElem? (i := 13) rfl)) (by decide) (by decide)) (g := (mkF m 64 #[.val (.int p0), .val (.long p1), .second, .val (.long p2), .second, .val (.ref s_BUY), .val (.long ((((p0 >>> ((2 : Int32) &&& 31)) &&& (3 : Int32)) - (1 : Int32)).toInt64)), .second, .val (.long (p1 + ((((p0 >>> ((2 : Int32) &&& 31)) &&& (3 : Int32)) - (1 : Int32)).toInt64))), .second, .val (.int (1 : Int32)), .unset] [(.long (p1 + ((((p0 >>> ((2 : Int32) &&& 31)) &&& (3 : Int32)) - (1 : Int32)).toInt64))), (.long p1)])) rfl (by rw [hml]; rfl) (argsL := [(.long p1), (.long (p1 + ((((p0 >>> ((2 : Int32) &&& 31)) &&& (3 : Int32)) - (1 : Int32)).toInt64)))]) (rest := []) (lenOf pd1 rfl) rfl (by show 2 * 0 + _ ≤ _; exact Nat.le_of_eq rfl) (hb hby at_64) (fun _ _ => ⟨rfl, e3, (by decide : 0 + 0 ≤ _), (by decide : 0 + 0 ≤ _)⟩)
  dsimp only [Pt.U, Pt.locs, Pt.cells, Pt.slots] at X4 l4 y4 z4 st4 hQ4
  subst l4 y4 z4
  obtain ⟨rfl, N4q, e4⟩ := hQ4
  have N4 := Fr.app N2 N4q
  obtain ⟨fs, hr, hrun, hended, hW, hsame⟩ := X4.leave (v := some (.int (1 : Int32))) (fun h => by rw [Bd.returns] at h; cases h)
  refine ⟨_, _, pre0 _ ?_, hrun, hended, _, _, rfl, ?_, ⟨_, rfl⟩, hW, hsame.mono (by decide) (by decide)⟩
  · show Steps p.tables e below (s₁.setTop (mkF m 0 #[.val (.int p0), .val (.long p1), .second, .val (.long p2), .second, .unset, .unset, .unset, .unset, .unset, .unset, .unset] [])) _
    refine XS.iloadN X0.here hx rfl (hb hby at_0) rfl ?_
    show Steps p.tables e below (s₁.setTop (mkF m 1 #[.val (.int p0), .val (.long p1), .second, .val (.long p2), .second, .unset, .unset, .unset, .unset, .unset, .unset, .unset] [(.int p0)])) _
    refine XS.iconst X0.here hx rfl (hb hby at_1) ?_
    show Steps p.tables e below (s₁.setTop (mkF m 2 #[.val (.int p0), .val (.long p1), .second, .val (.long p2), .second, .unset, .unset, .unset, .unset, .unset, .unset, .unset] [(.int (1 : Int32)), (.int p0)])) _
    refine XS.iand X0.here hx rfl (hb hby at_2) rfl ?_
    show Steps p.tables e below (s₁.setTop (mkF m 3 #[.val (.int p0), .val (.long p1), .second, .val (.long p2), .second, .unset, .unset, .unset, .unset, .unset, .unset, .unset] [(.int (p0 &&& (1 : Int32)))])) _
    rw [ha]
    show Steps p.tables e below (s₁.setTop (mkF m 3 #[.val (.int p0), .val (.long p1), .second, .val (.long p2), .second, .unset, .unset, .unset, .unset, .unset, .unset, .unset] [(.int (1 : Int32))])) _
    refine XS.ifNo X0.here hx rfl (hb hby at_3) rfl (by decide +kernel) ?_
    show Steps p.tables e below (s₁.setTop (mkF m 6 #[.val (.int p0), .val (.long p1), .second, .val (.long p2), .second, .unset, .unset, .unset, .unset, .unset, .unset, .unset] [])) _
    refine st1 _ ?_
    show Steps p.tables e below (T1.setTop (mkF m 9 #[.val (.int p0), .val (.long p1), .second, .val (.long p2), .second, .unset, .unset, .unset, .unset, .unset, .unset, .unset] [(.ref s_BUY)])) _
    refine XS.goto X1.here hx rfl (pc0 := 9) (pc' := 15) rfl (hb hby at_9) (by decide) (by decide) ?_
    show Steps p.tables e below (T1.setTop (mkF m 15 #[.val (.int p0), .val (.long p1), .second, .val (.long p2), .second, .unset, .unset, .unset, .unset, .unset, .unset, .unset] [(.ref s_BUY)])) _
    refine XS.astore X1.here hx rfl (hb hby at_15) rfl rfl (l' := #[.val (.int p0), .val (.long p1), .second, .val (.long p2), .second, .val (.ref s_BUY), .unset, .unset, .unset, .unset, .unset, .unset]) rfl ?_
    show Steps p.tables e below (T1.setTop (mkF m 17 #[.val (.int p0), .val (.long p1), .second, .val (.long p2), .second, .val (.ref s_BUY), .unset, .unset, .unset, .unset, .unset, .unset] [])) _
    refine XS.iloadN X1.here hx rfl (hb hby at_17) rfl ?_
    show Steps p.tables e below (T1.setTop (mkF m 18 #[.val (.int p0), .val (.long p1), .second, .val (.long p2), .second, .val (.ref s_BUY), .unset, .unset, .unset, .unset, .unset, .unset] [(.int p0)])) _
    refine XS.iconst X1.here hx rfl (hb hby at_18) ?_
    show Steps p.tables e below (T1.setTop (mkF m 19 #[.val (.int p0), .val (.long p1), .second, .val (.long p2), .second, .val (.ref s_BUY), .unset, .unset, .unset, .unset, .unset, .unset] [(.int (2 : Int32)), (.int p0)])) _
    refine XS.ishr X1.here hx rfl (hb hby at_19) rfl ?_
    show Steps p.tables e below (T1.setTop (mkF m 20 #[.val (.int p0), .val (.long p1), .second, .val (.long p2), .second, .val (.ref s_BUY), .unset, .unset, .unset, .unset, .unset, .unset] [(.int (p0 >>> ((2 : Int32) &&& 31)))])) _
    refine XS.iconst X1.here hx rfl (hb hby at_20) ?_
    show Steps p.tables e below (T1.setTop (mkF m 21 #[.val (.int p0), .val (.long p1), .second, .val (.long p2), .second, .val (.ref s_BUY), .unset, .unset, .unset, .unset, .unset, .unset] [(.int (3 : Int32)), (.int (p0 >>> ((2 : Int32) &&& 31)))])) _
    refine XS.iand X1.here hx rfl (hb hby at_21) rfl ?_
    show Steps p.tables e below (T1.setTop (mkF m 22 #[.val (.int p0), .val (.long p1), .second, .val (.long p2), .second, .val (.ref s_BUY), .unset, .unset, .unset, .unset, .unset, .unset] [(.int ((p0 >>> ((2 : Int32) &&& 31)) &&& (3 : Int32)))])) _
    refine XS.iconst X1.here hx rfl (hb hby at_22) ?_
    show Steps p.tables e below (T1.setTop (mkF m 23 #[.val (.int p0), .val (.long p1), .second, .val (.long p2), .second, .val (.ref s_BUY), .unset, .unset, .unset, .unset, .unset, .unset] [(.int (1 : Int32)), (.int ((p0 >>> ((2 : Int32) &&& 31)) &&& (3 : Int32)))])) _
    refine XS.isub X1.here hx rfl (hb hby at_23) rfl ?_
    show Steps p.tables e below (T1.setTop (mkF m 24 #[.val (.int p0), .val (.long p1), .second, .val (.long p2), .second, .val (.ref s_BUY), .unset, .unset, .unset, .unset, .unset, .unset] [(.int (((p0 >>> ((2 : Int32) &&& 31)) &&& (3 : Int32)) - (1 : Int32)))])) _
    refine XS.i2l X1.here hx rfl (hb hby at_24) rfl ?_
    show Steps p.tables e below (T1.setTop (mkF m 25 #[.val (.int p0), .val (.long p1), .second, .val (.long p2), .second, .val (.ref s_BUY), .unset, .unset, .unset, .unset, .unset, .unset] [(.long ((((p0 >>> ((2 : Int32) &&& 31)) &&& (3 : Int32)) - (1 : Int32)).toInt64))])) _
    refine XS.lstore X1.here hx rfl (hb hby at_25) rfl (l' := #[.val (.int p0), .val (.long p1), .second, .val (.long p2), .second, .val (.ref s_BUY), .val (.long ((((p0 >>> ((2 : Int32) &&& 31)) &&& (3 : Int32)) - (1 : Int32)).toInt64)), .second, .unset, .unset, .unset, .unset]) rfl ?_
    show Steps p.tables e below (T1.setTop (mkF m 27 #[.val (.int p0), .val (.long p1), .second, .val (.long p2), .second, .val (.ref s_BUY), .val (.long ((((p0 >>> ((2 : Int32) &&& 31)) &&& (3 : Int32)) - (1 : Int32)).toInt64)), .second, .unset, .unset, .unset, .unset] [])) _
    refine XS.iloadN X1.here hx rfl (hb hby at_27) rfl ?_
    show Steps p.tables e below (T1.setTop (mkF m 28 #[.val (.int p0), .val (.long p1), .second, .val (.long p2), .second, .val (.ref s_BUY), .val (.long ((((p0 >>> ((2 : Int32) &&& 31)) &&& (3 : Int32)) - (1 : Int32)).toInt64)), .second, .unset, .unset, .unset, .unset] [(.int p0)])) _
    refine XS.iconst X1.here hx rfl (hb hby at_28) ?_
    show Steps p.tables e below (T1.setTop (mkF m 29 #[.val (.int p0), .val (.long p1), .second, .val (.long p2), .second, .val (.ref s_BUY), .val (.long ((((p0 >>> ((2 : Int32) &&& 31)) &&& (3 : Int32)) - (1 : Int32)).toInt64)), .second, .unset, .unset, .unset, .unset] [(.int (2 : Int32)), (.int p0)])) _
    refine XS.iand X1.here hx rfl (hb hby at_29) rfl ?_
    show Steps p.tables e below (T1.setTop (mkF m 30 #[.val (.int p0), .val (.long p1), .second, .val (.long p2), .second, .val (.ref s_BUY), .val (.long ((((p0 >>> ((2 : Int32) &&& 31)) &&& (3 : Int32)) - (1 : Int32)).toInt64)), .second, .unset, .unset, .unset, .unset] [(.int (p0 &&& (2 : Int32)))])) _
    rw [hb1]
    show Steps p.tables e below (T1.setTop (mkF m 30 #[.val (.int p0), .val (.long p1), .second, .val (.long p2), .second, .val (.ref s_BUY), .val (.long ((((p0 >>> ((2 : Int32) &&& 31)) &&& (3 : Int32)) - (1 : Int32)).toInt64)), .second, .unset, .unset, .unset, .unset] [(.int (2 : Int32))])) _
    refine XS.ifNo X1.here hx rfl (hb hby at_30) rfl (by decide +kernel) ?_
    show Steps p.tables e below (T1.setTop (mkF m 33 #[.val (.int p0), .val (.long p1), .second, .val (.long p2), .second, .val (.ref s_BUY), .val (.long ((((p0 >>> ((2 : Int32) &&& 31)) &&& (3 : Int32)) - (1 : Int32)).toInt64)), .second, .unset, .unset, .unset, .unset] [])) _
    refine XS.lloadN X1.here hx rfl (hb hby at_33) rfl ?_
    show Steps p.tables e below (T1.setTop (mkF m 34 #[.val (.int p0), .val (.long p1), .second, .val (.long p2), .second, .val (.ref s_BUY), .val (.long ((((p0 >>> ((2 : Int32) &&& 31)) &&& (3 : Int32)) - (1 : Int32)).toInt64)), .second, .unset, .unset, .unset, .unset] [(.long p1)])) _
    refine XS.lload X1.here hx rfl (hb hby at_34) rfl ?_
    show Steps p.tables e below (T1.setTop (mkF m 36 #[.val (.int p0), .val (.long p1), .second, .val (.long p2), .second, .val (.ref s_BUY), .val (.long ((((p0 >>> ((2 : Int32) &&& 31)) &&& (3 : Int32)) - (1 : Int32)).toInt64)), .second, .unset, .unset, .unset, .unset] [(.long ((((p0 >>> ((2 : Int32) &&& 31)) &&& (3 : Int32)) - (1 : Int32)).toInt64)), (.long p1)])) _
    refine XS.ladd X1.here hx rfl (hb hby at_36) rfl ?_
    show Steps p.tables e below (T1.setTop (mkF m 37 #[.val (.int p0), .val (.long p1), .second, .val (.long p2), .second, .val (.ref s_BUY), .val (.long ((((p0 >>> ((2 : Int32) &&& 31)) &&& (3 : Int32)) - (1 : Int32)).toInt64)), .second, .unset, .unset, .unset, .unset] [(.long (p1 + ((((p0 >>> ((2 : Int32) &&& 31)) &&& (3 : Int32)) - (1 : Int32)).toInt64)))])) _
    refine XS.goto X1.here hx rfl (pc0 := 37) (pc' := 41) rfl (hb hby at_37) (by decide) (by decide) ?_
    show Steps p.tables e below (T1.setTop (mkF m 41 #[.val (.int p0), .val (.long p1), .second, .val (.long p2), .second, .val (.ref s_BUY), .val (.long ((((p0 >>> ((2 : Int32) &&& 31)) &&& (3 : Int32)) - (1 : Int32)).toInt64)), .second, .unset, .unset, .unset, .unset] [(.long (p1 + ((((p0 >>> ((2 : Int32) &&& 31)) &&& (3 : Int32)) - (1 : Int32)).toInt64)))])) _
    refine XS.lstore X1.here hx rfl (hb hby at_41) rfl (l' := #[.val (.int p0), .val (.long p1), .second, .val (.long p2), .second, .val (.ref s_BUY), .val (.long ((((p0 >>> ((2 : Int32) &&& 31)) &&& (3 : Int32)) - (1 : Int32)).toInt64)), .second, .val (.long (p1 + ((((p0 >>> ((2 : Int32) &&& 31)) &&& (3 : Int32)) - (1 : Int32)).toInt64))), .second, .unset, .unset]) rfl ?_
    show Steps p.tables e below (T1.setTop (mkF m 43 #[.val (.int p0), .val (.long p1), .second, .val (.long p2), .second, .val (.ref s_BUY), .val (.long ((((p0 >>> ((2 : Int32) &&& 31)) &&& (3 : Int32)) - (1 : Int32)).toInt64)), .second, .val (.long (p1 + ((((p0 >>> ((2 : Int32) &&& 31)) &&& (3 : Int32)) - (1 : Int32)).toInt64))), .second, .unset, .unset] [])) _
    refine XS.aload X1.here hx rfl (hb hby at_43) rfl rfl ?_
    show Steps p.tables e below (T1.setTop (mkF m 45 #[.val (.int p0), .val (.long p1), .second, .val (.long p2), .second, .val (.ref s_BUY), .val (.long ((((p0 >>> ((2 : Int32) &&& 31)) &&& (3 : Int32)) - (1 : Int32)).toInt64)), .second, .val (.long (p1 + ((((p0 >>> ((2 : Int32) &&& 31)) &&& (3 : Int32)) - (1 : Int32)).toInt64))), .second, .unset, .unset] [(.ref s_BUY)])) _
    refine XS.lloadN X1.here hx rfl (hb hby at_45) rfl ?_
    show Steps p.tables e below (T1.setTop (mkF m 46 #[.val (.int p0), .val (.long p1), .second, .val (.long p2), .second, .val (.ref s_BUY), .val (.long ((((p0 >>> ((2 : Int32) &&& 31)) &&& (3 : Int32)) - (1 : Int32)).toInt64)), .second, .val (.long (p1 + ((((p0 >>> ((2 : Int32) &&& 31)) &&& (3 : Int32)) - (1 : Int32)).toInt64))), .second, .unset, .unset] [(.long p1), (.ref s_BUY)])) _
    refine XS.lload X1.here hx rfl (hb hby at_46) rfl ?_
    show Steps p.tables e below (T1.setTop (mkF m 48 #[.val (.int p0), .val (.long p1), .second, .val (.long p2), .second, .val (.ref s_BUY), .val (.long ((((p0 >>> ((2 : Int32) &&& 31)) &&& (3 : Int32)) - (1 : Int32)).toInt64)), .second, .val (.long (p1 + ((((p0 >>> ((2 : Int32) &&& 31)) &&& (3 : Int32)) - (1 : Int32)).toInt64))), .second, .unset, .unset] [(.long (p1 + ((((p0 >>> ((2 : Int32) &&& 31)) &&& (3 : Int32)) - (1 : Int32)).toInt64))), (.long p1), (.ref s_BUY)])) _
    refine st2.trans ?_
    show Steps p.tables e below (T2.setTop (mkF m 51 #[.val (.int p0), .val (.long p1), .second, .val (.long p2), .second, .val (.ref s_BUY), .val (.long ((((p0 >>> ((2 : Int32) &&& 31)) &&& (3 : Int32)) - (1 : Int32)).toInt64)), .second, .val (.long (p1 + ((((p0 >>> ((2 : Int32) &&& 31)) &&& (3 : Int32)) - (1 : Int32)).toInt64))), .second, .unset, .unset] [(.int (1 : Int32))])) _
    refine XS.istore X2.here hx rfl (hb hby at_51) rfl (l' := #[.val (.int p0), .val (.long p1), .second, .val (.long p2), .second, .val (.ref s_BUY), .val (.long ((((p0 >>> ((2 : Int32) &&& 31)) &&& (3 : Int32)) - (1 : Int32)).toInt64)), .second, .val (.long (p1 + ((((p0 >>> ((2 : Int32) &&& 31)) &&& (3 : Int32)) - (1 : Int32)).toInt64))), .second, .val (.int (1 : Int32)), .unset]) rfl ?_
    show Steps p.tables e below (T2.setTop (mkF m 53 #[.val (.int p0), .val (.long p1), .second, .val (.long p2), .second, .val (.ref s_BUY), .val (.long ((((p0 >>> ((2 : Int32) &&& 31)) &&& (3 : Int32)) - (1 : Int32)).toInt64)), .second, .val (.long (p1 + ((((p0 >>> ((2 : Int32) &&& 31)) &&& (3 : Int32)) - (1 : Int32)).toInt64))), .second, .val (.int (1 : Int32)), .unset] [])) _
    refine XS.aload X2.here hx rfl (hb hby at_53) rfl rfl ?_
    show Steps p.tables e below (T2.setTop (mkF m 55 #[.val (.int p0), .val (.long p1), .second, .val (.long p2), .second, .val (.ref s_BUY), .val (.long ((((p0 >>> ((2 : Int32) &&& 31)) &&& (3 : Int32)) - (1 : Int32)).toInt64)), .second, .val (.long (p1 + ((((p0 >>> ((2 : Int32) &&& 31)) &&& (3 : Int32)) - (1 : Int32)).toInt64))), .second, .val (.int (1 : Int32)), .unset] [(.ref s_BUY)])) _
    refine st3 _ ?_
    show Steps p.tables e below (T3.setTop (mkF m 58 #[.val (.int p0), .val (.long p1), .second, .val (.long p2), .second, .val (.ref s_BUY), .val (.long ((((p0 >>> ((2 : Int32) &&& 31)) &&& (3 : Int32)) - (1 : Int32)).toInt64)), .second, .val (.long (p1 + ((((p0 >>> ((2 : Int32) &&& 31)) &&& (3 : Int32)) - (1 : Int32)).toInt64))), .second, .val (.int (1 : Int32)), .unset] [(.ref s_BUY), (.ref s_BUY)])) _
    refine Jvm.RoadKit.acmp (g := (mkF m 58 #[.val (.int p0), .val (.long p1), .second, .val (.long p2), .second, .val (.ref s_BUY), .val (.long ((((p0 >>> ((2 : Int32) &&& 31)) &&& (3 : Int32)) - (1 : Int32)).toInt64)), .second, .val (.long (p1 + ((((p0 >>> ((2 : Int32) &&& 31)) &&& (3 : Int32)) - (1 : Int32)).toInt64))), .second, .val (.int (1 : Int32)), .unset] [(.ref s_BUY), (.ref s_BUY)])) X3 hx rfl rfl rfl (pc0 := 58) (pc' := 61) (same := true) rfl (hb hby at_58) rfl (decide_eq_true rfl) (by decide) (by decide) ?_
    show Steps p.tables e below (T3.setTop (mkF m 61 #[.val (.int p0), .val (.long p1), .second, .val (.long p2), .second, .val (.ref s_BUY), .val (.long ((((p0 >>> ((2 : Int32) &&& 31)) &&& (3 : Int32)) - (1 : Int32)).toInt64)), .second, .val (.long (p1 + ((((p0 >>> ((2 : Int32) &&& 31)) &&& (3 : Int32)) - (1 : Int32)).toInt64))), .second, .val (.int (1 : Int32)), .unset] [])) _
    refine XS.lloadN X3.here hx rfl (hb hby at_61) rfl ?_
    show Steps p.tables e below (T3.setTop (mkF m 62 #[.val (.int p0), .val (.long p1), .second, .val (.long p2), .second, .val (.ref s_BUY), .val (.long ((((p0 >>> ((2 : Int32) &&& 31)) &&& (3 : Int32)) - (1 : Int32)).toInt64)), .second, .val (.long (p1 + ((((p0 >>> ((2 : Int32) &&& 31)) &&& (3 : Int32)) - (1 : Int32)).toInt64))), .second, .val (.int (1 : Int32)), .unset] [(.long p1)])) _
    refine XS.lload X3.here hx rfl (hb hby at_62) rfl ?_
    show Steps p.tables e below (T3.setTop (mkF m 64 #[.val (.int p0), .val (.long p1), .second, .val (.long p2), .second, .val (.ref s_BUY), .val (.long ((((p0 >>> ((2 : Int32) &&& 31)) &&& (3 : Int32)) - (1 : Int32)).toInt64)), .second, .val (.long (p1 + ((((p0 >>> ((2 : Int32) &&& 31)) &&& (3 : Int32)) - (1 : Int32)).toInt64))), .second, .val (.int (1 : Int32)), .unset] [(.long (p1 + ((((p0 >>> ((2 : Int32) &&& 31)) &&& (3 : Int32)) - (1 : Int32)).toInt64))), (.long p1)])) _
    refine st4 _ ?_
    show Steps p.tables e below (T4.setTop (mkF m 67 #[.val (.int p0), .val (.long p1), .second, .val (.long p2), .second, .val (.ref s_BUY), .val (.long ((((p0 >>> ((2 : Int32) &&& 31)) &&& (3 : Int32)) - (1 : Int32)).toInt64)), .second, .val (.long (p1 + ((((p0 >>> ((2 : Int32) &&& 31)) &&& (3 : Int32)) - (1 : Int32)).toInt64))), .second, .val (.int (1 : Int32)), .unset] [(.long p1)])) _
    refine XS.lloadN X4.here hx rfl (hb hby at_67) rfl ?_
    show Steps p.tables e below (T4.setTop (mkF m 68 #[.val (.int p0), .val (.long p1), .second, .val (.long p2), .second, .val (.ref s_BUY), .val (.long ((((p0 >>> ((2 : Int32) &&& 31)) &&& (3 : Int32)) - (1 : Int32)).toInt64)), .second, .val (.long (p1 + ((((p0 >>> ((2 : Int32) &&& 31)) &&& (3 : Int32)) - (1 : Int32)).toInt64))), .second, .val (.int (1 : Int32)), .unset] [(.long p1), (.long p1)])) _
    refine XS.lcmp X4.here hx rfl (hb hby at_68) rfl ?_
    show Steps p.tables e below (T4.setTop (mkF m 69 #[.val (.int p0), .val (.long p1), .second, .val (.long p2), .second, .val (.ref s_BUY), .val (.long ((((p0 >>> ((2 : Int32) &&& 31)) &&& (3 : Int32)) - (1 : Int32)).toInt64)), .second, .val (.long (p1 + ((((p0 >>> ((2 : Int32) &&& 31)) &&& (3 : Int32)) - (1 : Int32)).toInt64))), .second, .val (.int (1 : Int32)), .unset] [(.int (lcmpW p1 p1))])) _
    rw [own_lc_eq (rfl : p1 = p1)]
    show Steps p.tables e below (T4.setTop (mkF m 69 #[.val (.int p0), .val (.long p1), .second, .val (.long p2), .second, .val (.ref s_BUY), .val (.long ((((p0 >>> ((2 : Int32) &&& 31)) &&& (3 : Int32)) - (1 : Int32)).toInt64)), .second, .val (.long (p1 + ((((p0 >>> ((2 : Int32) &&& 31)) &&& (3 : Int32)) - (1 : Int32)).toInt64))), .second, .val (.int (1 : Int32)), .unset] [(.int (0 : Int32))])) _
    refine XS.ifNo X4.here hx rfl (hb hby at_69) rfl (by decide +kernel) ?_
    show Steps p.tables e below (T4.setTop (mkF m 72 #[.val (.int p0), .val (.long p1), .second, .val (.long p2), .second, .val (.ref s_BUY), .val (.long ((((p0 >>> ((2 : Int32) &&& 31)) &&& (3 : Int32)) - (1 : Int32)).toInt64)), .second, .val (.long (p1 + ((((p0 >>> ((2 : Int32) &&& 31)) &&& (3 : Int32)) - (1 : Int32)).toInt64))), .second, .val (.int (1 : Int32)), .unset] [])) _
    refine XS.iconst X4.here hx rfl (hb hby at_72) ?_
    show Steps p.tables e below (T4.setTop (mkF m 73 #[.val (.int p0), .val (.long p1), .second, .val (.long p2), .second, .val (.ref s_BUY), .val (.long ((((p0 >>> ((2 : Int32) &&& 31)) &&& (3 : Int32)) - (1 : Int32)).toInt64)), .second, .val (.long (p1 + ((((p0 >>> ((2 : Int32) &&& 31)) &&& (3 : Int32)) - (1 : Int32)).toInt64))), .second, .val (.int (1 : Int32)), .unset] [(.int (1 : Int32))])) _
    refine XS.goto X4.here hx rfl (pc0 := 73) (pc' := 77) rfl (hb hby at_73) (by decide) (by decide) ?_
    show Steps p.tables e below (T4.setTop (mkF m 77 #[.val (.int p0), .val (.long p1), .second, .val (.long p2), .second, .val (.ref s_BUY), .val (.long ((((p0 >>> ((2 : Int32) &&& 31)) &&& (3 : Int32)) - (1 : Int32)).toInt64)), .second, .val (.long (p1 + ((((p0 >>> ((2 : Int32) &&& 31)) &&& (3 : Int32)) - (1 : Int32)).toInt64))), .second, .val (.int (1 : Int32)), .unset] [(.int (1 : Int32))])) _
    refine XS.istore X4.here hx rfl (hb hby at_77) rfl (l' := #[.val (.int p0), .val (.long p1), .second, .val (.long p2), .second, .val (.ref s_BUY), .val (.long ((((p0 >>> ((2 : Int32) &&& 31)) &&& (3 : Int32)) - (1 : Int32)).toInt64)), .second, .val (.long (p1 + ((((p0 >>> ((2 : Int32) &&& 31)) &&& (3 : Int32)) - (1 : Int32)).toInt64))), .second, .val (.int (1 : Int32)), .val (.int (1 : Int32))]) rfl ?_
    show Steps p.tables e below (T4.setTop (mkF m 79 #[.val (.int p0), .val (.long p1), .second, .val (.long p2), .second, .val (.ref s_BUY), .val (.long ((((p0 >>> ((2 : Int32) &&& 31)) &&& (3 : Int32)) - (1 : Int32)).toInt64)), .second, .val (.long (p1 + ((((p0 >>> ((2 : Int32) &&& 31)) &&& (3 : Int32)) - (1 : Int32)).toInt64))), .second, .val (.int (1 : Int32)), .val (.int (1 : Int32))] [])) _
    refine XS.goto X4.here hx rfl (pc0 := 79) (pc' := 100) rfl (hb hby at_79) (by decide) (by decide) ?_
    show Steps p.tables e below (T4.setTop (mkF m 100 #[.val (.int p0), .val (.long p1), .second, .val (.long p2), .second, .val (.ref s_BUY), .val (.long ((((p0 >>> ((2 : Int32) &&& 31)) &&& (3 : Int32)) - (1 : Int32)).toInt64)), .second, .val (.long (p1 + ((((p0 >>> ((2 : Int32) &&& 31)) &&& (3 : Int32)) - (1 : Int32)).toInt64))), .second, .val (.int (1 : Int32)), .val (.int (1 : Int32))] [])) _
    refine XS.iload X4.here hx rfl (hb hby at_100) rfl ?_
    show Steps p.tables e below (T4.setTop (mkF m 102 #[.val (.int p0), .val (.long p1), .second, .val (.long p2), .second, .val (.ref s_BUY), .val (.long ((((p0 >>> ((2 : Int32) &&& 31)) &&& (3 : Int32)) - (1 : Int32)).toInt64)), .second, .val (.long (p1 + ((((p0 >>> ((2 : Int32) &&& 31)) &&& (3 : Int32)) - (1 : Int32)).toInt64))), .second, .val (.int (1 : Int32)), .val (.int (1 : Int32))] [(.int (1 : Int32))])) _
    refine XS.iload X4.here hx rfl (hb hby at_102) rfl ?_
    show Steps p.tables e below (T4.setTop (mkF m 104 #[.val (.int p0), .val (.long p1), .second, .val (.long p2), .second, .val (.ref s_BUY), .val (.long ((((p0 >>> ((2 : Int32) &&& 31)) &&& (3 : Int32)) - (1 : Int32)).toInt64)), .second, .val (.long (p1 + ((((p0 >>> ((2 : Int32) &&& 31)) &&& (3 : Int32)) - (1 : Int32)).toInt64))), .second, .val (.int (1 : Int32)), .val (.int (1 : Int32))] [(.int (1 : Int32)), (.int (1 : Int32))])) _
    refine XS.icmpNo X4.here hx rfl (hb hby at_104) rfl (by decide +kernel) ?_
    show Steps p.tables e below (T4.setTop (mkF m 107 #[.val (.int p0), .val (.long p1), .second, .val (.long p2), .second, .val (.ref s_BUY), .val (.long ((((p0 >>> ((2 : Int32) &&& 31)) &&& (3 : Int32)) - (1 : Int32)).toInt64)), .second, .val (.long (p1 + ((((p0 >>> ((2 : Int32) &&& 31)) &&& (3 : Int32)) - (1 : Int32)).toInt64))), .second, .val (.int (1 : Int32)), .val (.int (1 : Int32))] [])) _
    refine XS.iconst X4.here hx rfl (hb hby at_107) ?_
    show Steps p.tables e below (T4.setTop (mkF m 108 #[.val (.int p0), .val (.long p1), .second, .val (.long p2), .second, .val (.ref s_BUY), .val (.long ((((p0 >>> ((2 : Int32) &&& 31)) &&& (3 : Int32)) - (1 : Int32)).toInt64)), .second, .val (.long (p1 + ((((p0 >>> ((2 : Int32) &&& 31)) &&& (3 : Int32)) - (1 : Int32)).toInt64))), .second, .val (.int (1 : Int32)), .val (.int (1 : Int32))] [(.int (1 : Int32))])) _
    refine XS.goto X4.here hx rfl (pc0 := 108) (pc' := 112) rfl (hb hby at_108) (by decide) (by decide) ?_
    show Steps p.tables e below (T4.setTop (mkF m 112 #[.val (.int p0), .val (.long p1), .second, .val (.long p2), .second, .val (.ref s_BUY), .val (.long ((((p0 >>> ((2 : Int32) &&& 31)) &&& (3 : Int32)) - (1 : Int32)).toInt64)), .second, .val (.long (p1 + ((((p0 >>> ((2 : Int32) &&& 31)) &&& (3 : Int32)) - (1 : Int32)).toInt64))), .second, .val (.int (1 : Int32)), .val (.int (1 : Int32))] [(.int (1 : Int32))])) _
    exact retN X4 hx (t := .boolean) Bd.returns (by simp) (hb hby at_112) hr
  · exact ⟨rfl, N4, e4⟩
set_option maxRecDepth 65536 in
set_option maxHeartbeats 40000000 in
theorem r30 (l : Launch) (Z : State) (a0 : Array Value) (hw : ∀ d ∈ tables_1, d.before a0 Z = true) (ws : List Jvm.Cond) (h0 : Heap) (n0 : Nat) (s_SELL : Addr) (s_BUY : Addr) (K : Ctx Z h0 s_SELL s_BUY) (p0 : Int32) (p1 : Int64) (hc : (p1 + ((((p0 >>> ((2 : Int32) &&& 31)) &&& (3 : Int32)) - (1 : Int32)).toInt64)) = p1) :
    MetFree l (⟨"com/example/bookfence/bookfence/engine/Side", "allows", "(JJ)Z"⟩ : MethodName) (head1 (Jvm.Cond.code (⟨"com/example/bookfence/bookfence/engine/Side", "allows", "(JJ)Z"⟩ : MethodName) prog_44_method_5_code 5 (some .boolean) :: ws) ({ frames := 0, cells := 0, slots := 0, locals := 0 } : Room)) (fun a U => a = #[(.ref s_BUY), (.long p1), (.long (p1 + ((((p0 >>> ((2 : Int32) &&& 31)) &&& (3 : Int32)) - (1 : Int32)).toInt64)))] ∧ Z.Warmed39 U.vm ∧ U.heap = h0) (fun _ _ _ _ _ => True) (fun _ U o U' => ∃ v L, o = .returned v ∧ QV (.int (1 : Int32)) h0 n0 v U'.heap L ∧ FrameEnd U o U' L ({ frames := 0, cells := 0, slots := 0, locals := 0 } : Room).cells ({ frames := 0, cells := 0, slots := 0, locals := 0 } : Room).slots) := by
  obtain ⟨S_SELL, S_BUY, ne_BUY_SELL, E_SELL, E_BUY⟩ := id K
  refine MetFree.of_bodySF (plainFor_of_name pn0) hisR ?_
  intro p e s m args below meth c s₁ Bd hml0 hP hK
  obtain ⟨rfl, hZ, hh⟩ := hP
  have hx := Bd.exec
  have hby := Bd.bytes
  have hml : c.maxLocals = 5 := hml0
  have hown : s.vm.findClass "com/example/bookfence/bookfence/engine/Side" = some m.cls := findClass_of_methodNamed Bd.named
  have X0 : Stand p l e ({ frames := 0, cells := 0, slots := 0, locals := 0 } : Room) s m #[(.ref s_BUY), (.long p1), (.long (p1 + ((((p0 >>> ((2 : Int32) &&& 31)) &&& (3 : Int32)) - (1 : Int32)).toInt64)))] below meth c s₁ [] 0 0 := Stand.of_body Bd
  have e0 : s₁.heap = h0 := by rw [← hh, Bd.state]; rfl
  have N0 := Fr.nil n0
  have pre0 : ∀ t, Steps p.tables e below (s₁.setTop (mkF m 0 #[.val (.ref s_BUY), .val (.long p1), .second, .val (.long (p1 + ((((p0 >>> ((2 : Int32) &&& 31)) &&& (3 : Int32)) - (1 : Int32)).toInt64))), .second] [])) t → Steps p.tables e below (s₁.setTop (entryFrame m #[(.ref s_BUY), (.long p1), (.long (p1 + ((((p0 >>> ((2 : Int32) &&& 31)) &&& (3 : Int32)) - (1 : Int32)).toInt64)))] 5)) t := fun t k => castTop (by first | (simp [entryFrame, mkF, argsToLocals, Value.category]; done) | rfl) k
  obtain ⟨T1, X1, e1, st1⟩ := getS X0 hx hZ hown (host := "") (hw _ (List.mem_of_getElem? (i := 8) rfl)) Via.refl e0 S_BUY (g := (mkF m 1 #[.val (.ref s_BUY), .val (.long p1), .second, .val (.long (p1 + ((((p0 >>> ((2 : Int32) &&& 31)) &&& (3 : Int32)) - (1 : Int32)).toInt64))), .second] [(.ref s_BUY)])) rfl (hb hby d0_1)
  obtain ⟨fs, hr, hrun, hended, hW, hsame⟩ := X1.leave (v := some (.int (1 : Int32))) (fun h => by rw [Bd.returns] at h; cases h)
  refine ⟨_, _, pre0 _ ?_, hrun, hended, _, _, rfl, ?_, ⟨_, rfl⟩, hW, hsame.mono (by decide) (by decide)⟩
  · show Steps p.tables e below (s₁.setTop (mkF m 0 #[.val (.ref s_BUY), .val (.long p1), .second, .val (.long (p1 + ((((p0 >>> ((2 : Int32) &&& 31)) &&& (3 : Int32)) - (1 : Int32)).toInt64))), .second] [])) _
    refine XS.aloadN X0.here hx rfl (hb hby d0_0) rfl rfl ?_
    show Steps p.tables e below (s₁.setTop (mkF m 1 #[.val (.ref s_BUY), .val (.long p1), .second, .val (.long (p1 + ((((p0 >>> ((2 : Int32) &&& 31)) &&& (3 : Int32)) - (1 : Int32)).toInt64))), .second] [(.ref s_BUY)])) _
    refine st1 _ ?_
    show Steps p.tables e below (T1.setTop (mkF m 4 #[.val (.ref s_BUY), .val (.long p1), .second, .val (.long (p1 + ((((p0 >>> ((2 : Int32) &&& 31)) &&& (3 : Int32)) - (1 : Int32)).toInt64))), .second] [(.ref s_BUY), (.ref s_BUY)])) _
    refine Jvm.RoadKit.acmp (g := (mkF m 4 #[.val (.ref s_BUY), .val (.long p1), .second, .val (.long (p1 + ((((p0 >>> ((2 : Int32) &&& 31)) &&& (3 : Int32)) - (1 : Int32)).toInt64))), .second] [(.ref s_BUY), (.ref s_BUY)])) X1 hx rfl rfl rfl (pc0 := 4) (pc' := 7) (same := true) rfl (hb hby d0_4) rfl (decide_eq_true rfl) (by decide) (by decide) ?_
    show Steps p.tables e below (T1.setTop (mkF m 7 #[.val (.ref s_BUY), .val (.long p1), .second, .val (.long (p1 + ((((p0 >>> ((2 : Int32) &&& 31)) &&& (3 : Int32)) - (1 : Int32)).toInt64))), .second] [])) _
    refine XS.lloadN X1.here hx rfl (hb hby d0_7) rfl ?_
    show Steps p.tables e below (T1.setTop (mkF m 8 #[.val (.ref s_BUY), .val (.long p1), .second, .val (.long (p1 + ((((p0 >>> ((2 : Int32) &&& 31)) &&& (3 : Int32)) - (1 : Int32)).toInt64))), .second] [(.long (p1 + ((((p0 >>> ((2 : Int32) &&& 31)) &&& (3 : Int32)) - (1 : Int32)).toInt64)))])) _
    refine XS.lloadN X1.here hx rfl (hb hby d0_8) rfl ?_
    show Steps p.tables e below (T1.setTop (mkF m 9 #[.val (.ref s_BUY), .val (.long p1), .second, .val (.long (p1 + ((((p0 >>> ((2 : Int32) &&& 31)) &&& (3 : Int32)) - (1 : Int32)).toInt64))), .second] [(.long p1), (.long (p1 + ((((p0 >>> ((2 : Int32) &&& 31)) &&& (3 : Int32)) - (1 : Int32)).toInt64)))])) _
    refine XS.lcmp X1.here hx rfl (hb hby d0_9) rfl ?_
    show Steps p.tables e below (T1.setTop (mkF m 10 #[.val (.ref s_BUY), .val (.long p1), .second, .val (.long (p1 + ((((p0 >>> ((2 : Int32) &&& 31)) &&& (3 : Int32)) - (1 : Int32)).toInt64))), .second] [(.int (lcmpW (p1 + ((((p0 >>> ((2 : Int32) &&& 31)) &&& (3 : Int32)) - (1 : Int32)).toInt64)) p1))])) _
    rw [own_lc_eq hc]
    show Steps p.tables e below (T1.setTop (mkF m 10 #[.val (.ref s_BUY), .val (.long p1), .second, .val (.long (p1 + ((((p0 >>> ((2 : Int32) &&& 31)) &&& (3 : Int32)) - (1 : Int32)).toInt64))), .second] [(.int (0 : Int32))])) _
    refine XS.ifNo X1.here hx rfl (hb hby d0_10) rfl (by decide +kernel) ?_
    show Steps p.tables e below (T1.setTop (mkF m 13 #[.val (.ref s_BUY), .val (.long p1), .second, .val (.long (p1 + ((((p0 >>> ((2 : Int32) &&& 31)) &&& (3 : Int32)) - (1 : Int32)).toInt64))), .second] [])) _
    refine XS.iconst X1.here hx rfl (hb hby d0_13) ?_
    show Steps p.tables e below (T1.setTop (mkF m 14 #[.val (.ref s_BUY), .val (.long p1), .second, .val (.long (p1 + ((((p0 >>> ((2 : Int32) &&& 31)) &&& (3 : Int32)) - (1 : Int32)).toInt64))), .second] [(.int (1 : Int32))])) _
    refine XS.goto X1.here hx rfl (pc0 := 14) (pc' := 32) rfl (hb hby d0_14) (by decide) (by decide) ?_
    show Steps p.tables e below (T1.setTop (mkF m 32 #[.val (.ref s_BUY), .val (.long p1), .second, .val (.long (p1 + ((((p0 >>> ((2 : Int32) &&& 31)) &&& (3 : Int32)) - (1 : Int32)).toInt64))), .second] [(.int (1 : Int32))])) _
    exact retN X1 hx (t := .boolean) Bd.returns (by simp) (hb hby d0_32) hr
  · exact ⟨rfl, N0, e1⟩
set_option maxRecDepth 65536 in
set_option maxHeartbeats 40000000 in
theorem r31 (l : Launch) (Z : State) (a0 : Array Value) (hw : ∀ d ∈ tables_1, d.before a0 Z = true) (ws : List Jvm.Cond) (h0 : Heap) (n0 : Nat) (s_SELL : Addr) (s_BUY : Addr) (K : Ctx Z h0 s_SELL s_BUY) (p0 : Int32) (p1 : Int64) (hc : (p1 + ((((p0 >>> ((2 : Int32) &&& 31)) &&& (3 : Int32)) - (1 : Int32)).toInt64)) = p1) :
    MetFree l (⟨"java/lang/Math", "max", "(JJ)J"⟩ : MethodName) (head1 (Jvm.Cond.code (⟨"java/lang/Math", "max", "(JJ)J"⟩ : MethodName) jdk_29_method_66_code 4 (some .long) :: ws) ({ frames := 0, cells := 0, slots := 0, locals := 0 } : Room)) (fun a U => a = #[(.long p1), (.long (p1 + ((((p0 >>> ((2 : Int32) &&& 31)) &&& (3 : Int32)) - (1 : Int32)).toInt64)))] ∧ Z.Warmed39 U.vm ∧ U.heap = h0) (fun _ _ _ _ _ => True) (fun _ U o U' => ∃ v L, o = .returned v ∧ QV (.long p1) h0 n0 v U'.heap L ∧ FrameEnd U o U' L ({ frames := 0, cells := 0, slots := 0, locals := 0 } : Room).cells ({ frames := 0, cells := 0, slots := 0, locals := 0 } : Room).slots) := by
  obtain ⟨S_SELL, S_BUY, ne_BUY_SELL, E_SELL, E_BUY⟩ := id K
  refine MetFree.of_bodySF (Jvm.Free.JP.mathPlain rfl (by decide +kernel)) hisR ?_
  intro p e s m args below meth c s₁ Bd hml0 hP hK
  obtain ⟨rfl, hZ, hh⟩ := hP
  have hx := Bd.exec
  have hby := Bd.bytes
  have hml : c.maxLocals = 4 := hml0
  have hown : s.vm.findClass "java/lang/Math" = some m.cls := findClass_of_methodNamed Bd.named
  have X0 : Stand p l e ({ frames := 0, cells := 0, slots := 0, locals := 0 } : Room) s m #[(.long p1), (.long (p1 + ((((p0 >>> ((2 : Int32) &&& 31)) &&& (3 : Int32)) - (1 : Int32)).toInt64)))] below meth c s₁ [] 0 0 := Stand.of_body Bd
  have e0 : s₁.heap = h0 := by rw [← hh, Bd.state]; rfl
  have N0 := Fr.nil n0
  have pre0 : ∀ t, Steps p.tables e below (s₁.setTop (mkF m 0 #[.val (.long p1), .second, .val (.long (p1 + ((((p0 >>> ((2 : Int32) &&& 31)) &&& (3 : Int32)) - (1 : Int32)).toInt64))), .second] [])) t → Steps p.tables e below (s₁.setTop (entryFrame m #[(.long p1), (.long (p1 + ((((p0 >>> ((2 : Int32) &&& 31)) &&& (3 : Int32)) - (1 : Int32)).toInt64)))] 4)) t := fun t k => castTop (by first | (simp [entryFrame, mkF, argsToLocals, Value.category]; done) | rfl) k
  obtain ⟨fs, hr, hrun, hended, hW, hsame⟩ := X0.leave (v := some (.long p1)) (fun h => by rw [Bd.returns] at h; cases h)
  refine ⟨_, _, pre0 _ ?_, hrun, hended, _, _, rfl, ?_, ⟨_, rfl⟩, hW, hsame.mono (by decide) (by decide)⟩
  · show Steps p.tables e below (s₁.setTop (mkF m 0 #[.val (.long p1), .second, .val (.long (p1 + ((((p0 >>> ((2 : Int32) &&& 31)) &&& (3 : Int32)) - (1 : Int32)).toInt64))), .second] [])) _
    refine XS.lloadN X0.here hx rfl (hb hby d2_0) rfl ?_
    show Steps p.tables e below (s₁.setTop (mkF m 1 #[.val (.long p1), .second, .val (.long (p1 + ((((p0 >>> ((2 : Int32) &&& 31)) &&& (3 : Int32)) - (1 : Int32)).toInt64))), .second] [(.long p1)])) _
    refine XS.lloadN X0.here hx rfl (hb hby d2_1) rfl ?_
    show Steps p.tables e below (s₁.setTop (mkF m 2 #[.val (.long p1), .second, .val (.long (p1 + ((((p0 >>> ((2 : Int32) &&& 31)) &&& (3 : Int32)) - (1 : Int32)).toInt64))), .second] [(.long (p1 + ((((p0 >>> ((2 : Int32) &&& 31)) &&& (3 : Int32)) - (1 : Int32)).toInt64))), (.long p1)])) _
    refine XS.lcmp X0.here hx rfl (hb hby d2_2) rfl ?_
    show Steps p.tables e below (s₁.setTop (mkF m 3 #[.val (.long p1), .second, .val (.long (p1 + ((((p0 >>> ((2 : Int32) &&& 31)) &&& (3 : Int32)) - (1 : Int32)).toInt64))), .second] [(.int (lcmpW p1 (p1 + ((((p0 >>> ((2 : Int32) &&& 31)) &&& (3 : Int32)) - (1 : Int32)).toInt64))))])) _
    rw [own_lr_eq hc]
    show Steps p.tables e below (s₁.setTop (mkF m 3 #[.val (.long p1), .second, .val (.long (p1 + ((((p0 >>> ((2 : Int32) &&& 31)) &&& (3 : Int32)) - (1 : Int32)).toInt64))), .second] [(.int (0 : Int32))])) _
    refine XS.ifNo X0.here hx rfl (hb hby d2_3) rfl (by decide +kernel) ?_
    show Steps p.tables e below (s₁.setTop (mkF m 6 #[.val (.long p1), .second, .val (.long (p1 + ((((p0 >>> ((2 : Int32) &&& 31)) &&& (3 : Int32)) - (1 : Int32)).toInt64))), .second] [])) _
    refine XS.lloadN X0.here hx rfl (hb hby d2_6) rfl ?_
    show Steps p.tables e below (s₁.setTop (mkF m 7 #[.val (.long p1), .second, .val (.long (p1 + ((((p0 >>> ((2 : Int32) &&& 31)) &&& (3 : Int32)) - (1 : Int32)).toInt64))), .second] [(.long p1)])) _
    refine XS.goto X0.here hx rfl (pc0 := 7) (pc' := 11) rfl (hb hby d2_7) (by decide) (by decide) ?_
    show Steps p.tables e below (s₁.setTop (mkF m 11 #[.val (.long p1), .second, .val (.long (p1 + ((((p0 >>> ((2 : Int32) &&& 31)) &&& (3 : Int32)) - (1 : Int32)).toInt64))), .second] [(.long p1)])) _
    exact retOut X0 hx (i := .lreturn) Bd.returns rfl (Or.inr (Or.inl ⟨rfl, rfl, _, rfl⟩)) (hb hby d2_11) hr
  · exact ⟨rfl, N0, e0⟩
set_option maxRecDepth 65536 in
set_option maxHeartbeats 40000000 in
theorem law_k1_2_eq (l : Launch) (Z : State) (a0 : Array Value) (hw : ∀ d ∈ tables_1, d.before a0 Z = true) (ws : List Jvm.Cond) (h0 : Heap) (n0 : Nat) (s_SELL : Addr) (s_BUY : Addr) (K : Ctx Z h0 s_SELL s_BUY) (p0 : Int32) (p1 : Int64) (p2 : Int64) (ha : (p0 &&& (1 : Int32)) = (1 : Int32)) (hb1 : (p0 &&& (2 : Int32)) = (2 : Int32)) (hc : (p1 + ((((p0 >>> ((2 : Int32) &&& 31)) &&& (3 : Int32)) - (1 : Int32)).toInt64)) = p1) :
    MetFree l x (head1 (Jvm.Cond.code x code maxLocals ret :: ws) room_1) (fun a U => a = #[(.int p0), (.long p1), (.long p2)] ∧ Z.Warmed39 U.vm ∧ U.heap = h0) (fun _ _ _ _ _ => True) (fun _ U o U' => ∃ v L, o = .returned v ∧ QV (.int (1 : Int32)) h0 n0 v U'.heap L ∧ FrameEnd U o U' L room_1.cells room_1.slots) := by
  obtain ⟨S_SELL, S_BUY, ne_BUY_SELL, E_SELL, E_BUY⟩ := id K
  refine MetFree.of_bodySF (plainFor_of_name pn3) hisR ?_
  intro p e s m args below meth c s₁ Bd hml0 hP hK
  obtain ⟨rfl, hZ, hh⟩ := hP
  have hx := Bd.exec
  have hby := Bd.bytes
  have hml : c.maxLocals = 12 := hml0
  have hown : s.vm.findClass "com/example/bookfence/bookfence/engine/SideAllowsPinLaw" = some m.cls := findClass_of_methodNamed Bd.named
  have X0 : Stand p l e room_1 s m #[(.int p0), (.long p1), (.long p2)] below meth c s₁ [] 0 0 := Stand.of_body Bd
  have e0 : s₁.heap = h0 := by rw [← hh, Bd.state]; rfl
  have N0 := Fr.nil n0
  have pre0 : ∀ t, Steps p.tables e below (s₁.setTop (mkF m 0 #[.val (.int p0), .val (.long p1), .second, .val (.long p2), .second, .unset, .unset, .unset, .unset, .unset, .unset, .unset] [])) t → Steps p.tables e below (s₁.setTop (entryFrame m #[(.int p0), (.long p1), (.long p2)] maxLocals)) t := fun t k => castTop (by first | (simp [entryFrame, mkF, argsToLocals, Value.category, maxLocals]; done) | rfl) k
  obtain ⟨T1, X1, e1, st1⟩ := getS X0 hx hZ hown (host := "") (hw _ (List.mem_of_getElem? (i := 10) rfl)) Via.refl e0 S_BUY (g := (mkF m 6 #[.val (.int p0), .val (.long p1), .second, .val (.long p2), .second, .unset, .unset, .unset, .unset, .unset, .unset, .unset] [])) rfl (hb hby at_6)
  obtain ⟨cq2, kq2, q2a, q2b, q2c⟩ := isOf hZ e1 E_BUY
  obtain ⟨_, _, ⟨T2, L2, k2, n2⟩, -, X2, ⟨Lc2, hQ2, l2, y2, z2⟩, st2⟩ := X1.virtualBack hx (y := (⟨"com/example/bookfence/bookfence/engine/Side", "allows", "(JJ)Z"⟩ : MethodName)) (z := (⟨"com/example/bookfence/bookfence/engine/Side", "allows", "(JJ)Z"⟩ : MethodName)) hown (mvT hZ (hw _ (List.mem_of_getElem? (i := 3) rfl))) (mvT hZ (hw _ (List.mem_of_getElem? (i := 4) rfl))) (notFace_of_selects (args := #[]) (mvT hZ (hw _ (List.mem_of_getElem? (i := 6) rfl)))) (mvT hZ (hw _ (List.mem_of_getElem? (i := 6) rfl))) (mvT hZ (hw _ (List.mem_of_getElem? (i := 5) rfl))) (by decide) (backOf (W := 0) (r30 l Z a0 hw [] h0 n0 s_SELL s_BUY K p0 p1 hc) hZ (hw _ (List.mem_of_getElem? (i := 7) rfl)) (hw _ (List.mem_of_getElem? (i := 1) rfl)) (by decide) (by decide)) q2a q2c (g := (mkF m 48 #[.val (.int p0), .val (.long p1), .second, .val (.long p2), .second, .val (.ref s_BUY), .val (.long ((((p0 >>> ((2 : Int32) &&& 31)) &&& (3 : Int32)) - (1 : Int32)).toInt64)), .second, .val (.long (p1 + ((((p0 >>> ((2 : Int32) &&& 31)) &&& (3 : Int32)) - (1 : Int32)).toInt64))), .second, .unset, .unset] [(.long (p1 + ((((p0 >>> ((2 : Int32) &&& 31)) &&& (3 : Int32)) - (1 : Int32)).toInt64))), (.long p1), (.ref s_BUY)])) rfl (by rw [hml]; rfl) (Steps.refl _) (argsL := [(.long p1), (.long (p1 + ((((p0 >>> ((2 : Int32) &&& 31)) &&& (3 : Int32)) - (1 : Int32)).toInt64)))]) (rest := []) (lenOf pd0 rfl) rfl (by show 2 * 0 + _ ≤ _; exact Nat.le_of_eq rfl) (hb hby at_48) (fun _ _ => ⟨rfl, e1, (by decide : 0 + 0 ≤ _), (by decide : 0 + 0 ≤ _)⟩)
  dsimp only [Pt.U, Pt.locs, Pt.cells, Pt.slots] at X2 l2 y2 z2 st2 hQ2
  subst l2 y2 z2
  obtain ⟨rfl, N2q, e2⟩ := hQ2
  have N2 := Fr.app N0 N2q
  obtain ⟨T3, X3, e3, st3⟩ := getS X2 hx hZ hown (host := "") (hw _ (List.mem_of_getElem? (i := 10) rfl)) Via.refl e2 S_BUY (g := (mkF m 55 #[.val (.int p0), .val (.long p1), .second, .val (.long p2), .second, .val (.ref s_BUY), .val (.long ((((p0 >>> ((2 : Int32) &&& 31)) &&& (3 : Int32)) - (1 : Int32)).toInt64)), .second, .val (.long (p1 + ((((p0 >>> ((2 : Int32) &&& 31)) &&& (3 : Int32)) - (1 : Int32)).toInt64))), .second, .val (.int (1 : Int32)), .unset] [(.ref s_BUY)])) rfl (hb hby at_55)
  obtain ⟨_, _, ⟨T4, L4, k4, n4⟩, -, X4, ⟨Lc4, hQ4, l4, y4, z4⟩, st4⟩ := Jvm.LawKit.callS X3 hx (y := (⟨"java/lang/Math", "max", "(JJ)J"⟩ : MethodName)) hown (mvT hZ (hw _ (List.mem_of_getElem? (i := 15) rfl))) (mvT hZ (hw _ (List.mem_of_getElem? (i := 16) rfl))) (mvT hZ (hw _ (List.mem_of_getElem? (i := 13) rfl))) (mvT hZ (hw _ (List.mem_of_getElem? (i := 17) rfl))) (by decide) (backOf (W := 0) (r31 l Z a0 hw [] h0 n0 s_SELL s_BUY K p0 p1 hc) hZ (hw _ (List.mem_of_getElem? (i := 17) rfl)) (hw _ (List.mem_of_getElem? (i := 13) rfl)) (by decide) (by decide)) (g := (mkF m 64 #[.val (.int p0), .val (.long p1), .second, .val (.long p2), .second, .val (.ref s_BUY), .val (.long ((((p0 >>> ((2 : Int32) &&& 31)) &&& (3 : Int32)) - (1 : Int32)).toInt64)), .second, .val (.long (p1 + ((((p0 >>> ((2 : Int32) &&& 31)) &&& (3 : Int32)) - (1 : Int32)).toInt64))), .second, .val (.int (1 : Int32)), .unset] [(.long (p1 + ((((p0 >>> ((2 : Int32) &&& 31)) &&& (3 : Int32)) - (1 : Int32)).toInt64))), (.long p1)])) rfl (by rw [hml]; rfl) (argsL := [(.long p1), (.long (p1 + ((((p0 >>> ((2 : Int32) &&& 31)) &&& (3 : Int32)) - (1 : Int32)).toInt64)))]) (rest := []) (lenOf pd1 rfl) rfl (by show 2 * 0 + _ ≤ _; exact Nat.le_of_eq rfl) (hb hby at_64) (fun _ _ => ⟨rfl, e3, (by decide : 0 + 0 ≤ _), (by decide : 0 + 0 ≤ _)⟩)
  dsimp only [Pt.U, Pt.locs, Pt.cells, Pt.slots] at X4 l4 y4 z4 st4 hQ4
  subst l4 y4 z4
  obtain ⟨rfl, N4q, e4⟩ := hQ4
  have N4 := Fr.app N2 N4q
  obtain ⟨fs, hr, hrun, hended, hW, hsame⟩ := X4.leave (v := some (.int (1 : Int32))) (fun h => by rw [Bd.returns] at h; cases h)
  refine ⟨_, _, pre0 _ ?_, hrun, hended, _, _, rfl, ?_, ⟨_, rfl⟩, hW, hsame.mono (by decide) (by decide)⟩
  · show Steps p.tables e below (s₁.setTop (mkF m 0 #[.val (.int p0), .val (.long p1), .second, .val (.long p2), .second, .unset, .unset, .unset, .unset, .unset, .unset, .unset] [])) _
    refine XS.iloadN X0.here hx rfl (hb hby at_0) rfl ?_
    show Steps p.tables e below (s₁.setTop (mkF m 1 #[.val (.int p0), .val (.long p1), .second, .val (.long p2), .second, .unset, .unset, .unset, .unset, .unset, .unset, .unset] [(.int p0)])) _
    refine XS.iconst X0.here hx rfl (hb hby at_1) ?_
    show Steps p.tables e below (s₁.setTop (mkF m 2 #[.val (.int p0), .val (.long p1), .second, .val (.long p2), .second, .unset, .unset, .unset, .unset, .unset, .unset, .unset] [(.int (1 : Int32)), (.int p0)])) _
    refine XS.iand X0.here hx rfl (hb hby at_2) rfl ?_
    show Steps p.tables e below (s₁.setTop (mkF m 3 #[.val (.int p0), .val (.long p1), .second, .val (.long p2), .second, .unset, .unset, .unset, .unset, .unset, .unset, .unset] [(.int (p0 &&& (1 : Int32)))])) _
    rw [ha]
    show Steps p.tables e below (s₁.setTop (mkF m 3 #[.val (.int p0), .val (.long p1), .second, .val (.long p2), .second, .unset, .unset, .unset, .unset, .unset, .unset, .unset] [(.int (1 : Int32))])) _
    refine XS.ifNo X0.here hx rfl (hb hby at_3) rfl (by decide +kernel) ?_
    show Steps p.tables e below (s₁.setTop (mkF m 6 #[.val (.int p0), .val (.long p1), .second, .val (.long p2), .second, .unset, .unset, .unset, .unset, .unset, .unset, .unset] [])) _
    refine st1 _ ?_
    show Steps p.tables e below (T1.setTop (mkF m 9 #[.val (.int p0), .val (.long p1), .second, .val (.long p2), .second, .unset, .unset, .unset, .unset, .unset, .unset, .unset] [(.ref s_BUY)])) _
    refine XS.goto X1.here hx rfl (pc0 := 9) (pc' := 15) rfl (hb hby at_9) (by decide) (by decide) ?_
    show Steps p.tables e below (T1.setTop (mkF m 15 #[.val (.int p0), .val (.long p1), .second, .val (.long p2), .second, .unset, .unset, .unset, .unset, .unset, .unset, .unset] [(.ref s_BUY)])) _
    refine XS.astore X1.here hx rfl (hb hby at_15) rfl rfl (l' := #[.val (.int p0), .val (.long p1), .second, .val (.long p2), .second, .val (.ref s_BUY), .unset, .unset, .unset, .unset, .unset, .unset]) rfl ?_
    show Steps p.tables e below (T1.setTop (mkF m 17 #[.val (.int p0), .val (.long p1), .second, .val (.long p2), .second, .val (.ref s_BUY), .unset, .unset, .unset, .unset, .unset, .unset] [])) _
    refine XS.iloadN X1.here hx rfl (hb hby at_17) rfl ?_
    show Steps p.tables e below (T1.setTop (mkF m 18 #[.val (.int p0), .val (.long p1), .second, .val (.long p2), .second, .val (.ref s_BUY), .unset, .unset, .unset, .unset, .unset, .unset] [(.int p0)])) _
    refine XS.iconst X1.here hx rfl (hb hby at_18) ?_
    show Steps p.tables e below (T1.setTop (mkF m 19 #[.val (.int p0), .val (.long p1), .second, .val (.long p2), .second, .val (.ref s_BUY), .unset, .unset, .unset, .unset, .unset, .unset] [(.int (2 : Int32)), (.int p0)])) _
    refine XS.ishr X1.here hx rfl (hb hby at_19) rfl ?_
    show Steps p.tables e below (T1.setTop (mkF m 20 #[.val (.int p0), .val (.long p1), .second, .val (.long p2), .second, .val (.ref s_BUY), .unset, .unset, .unset, .unset, .unset, .unset] [(.int (p0 >>> ((2 : Int32) &&& 31)))])) _
    refine XS.iconst X1.here hx rfl (hb hby at_20) ?_
    show Steps p.tables e below (T1.setTop (mkF m 21 #[.val (.int p0), .val (.long p1), .second, .val (.long p2), .second, .val (.ref s_BUY), .unset, .unset, .unset, .unset, .unset, .unset] [(.int (3 : Int32)), (.int (p0 >>> ((2 : Int32) &&& 31)))])) _
    refine XS.iand X1.here hx rfl (hb hby at_21) rfl ?_
    show Steps p.tables e below (T1.setTop (mkF m 22 #[.val (.int p0), .val (.long p1), .second, .val (.long p2), .second, .val (.ref s_BUY), .unset, .unset, .unset, .unset, .unset, .unset] [(.int ((p0 >>> ((2 : Int32) &&& 31)) &&& (3 : Int32)))])) _
    refine XS.iconst X1.here hx rfl (hb hby at_22) ?_
    show Steps p.tables e below (T1.setTop (mkF m 23 #[.val (.int p0), .val (.long p1), .second, .val (.long p2), .second, .val (.ref s_BUY), .unset, .unset, .unset, .unset, .unset, .unset] [(.int (1 : Int32)), (.int ((p0 >>> ((2 : Int32) &&& 31)) &&& (3 : Int32)))])) _
    refine XS.isub X1.here hx rfl (hb hby at_23) rfl ?_
    show Steps p.tables e below (T1.setTop (mkF m 24 #[.val (.int p0), .val (.long p1), .second, .val (.long p2), .second, .val (.ref s_BUY), .unset, .unset, .unset, .unset, .unset, .unset] [(.int (((p0 >>> ((2 : Int32) &&& 31)) &&& (3 : Int32)) - (1 : Int32)))])) _
    refine XS.i2l X1.here hx rfl (hb hby at_24) rfl ?_
    show Steps p.tables e below (T1.setTop (mkF m 25 #[.val (.int p0), .val (.long p1), .second, .val (.long p2), .second, .val (.ref s_BUY), .unset, .unset, .unset, .unset, .unset, .unset] [(.long ((((p0 >>> ((2 : Int32) &&& 31)) &&& (3 : Int32)) - (1 : Int32)).toInt64))])) _
    refine XS.lstore X1.here hx rfl (hb hby at_25) rfl (l' := #[.val (.int p0), .val (.long p1), .second, .val (.long p2), .second, .val (.ref s_BUY), .val (.long ((((p0 >>> ((2 : Int32) &&& 31)) &&& (3 : Int32)) - (1 : Int32)).toInt64)), .second, .unset, .unset, .unset, .unset]) rfl ?_
    show Steps p.tables e below (T1.setTop (mkF m 27 #[.val (.int p0), .val (.long p1), .second, .val (.long p2), .second, .val (.ref s_BUY), .val (.long ((((p0 >>> ((2 : Int32) &&& 31)) &&& (3 : Int32)) - (1 : Int32)).toInt64)), .second, .unset, .unset, .unset, .unset] [])) _
    refine XS.iloadN X1.here hx rfl (hb hby at_27) rfl ?_
    show Steps p.tables e below (T1.setTop (mkF m 28 #[.val (.int p0), .val (.long p1), .second, .val (.long p2), .second, .val (.ref s_BUY), .val (.long ((((p0 >>> ((2 : Int32) &&& 31)) &&& (3 : Int32)) - (1 : Int32)).toInt64)), .second, .unset, .unset, .unset, .unset] [(.int p0)])) _
    refine XS.iconst X1.here hx rfl (hb hby at_28) ?_
    show Steps p.tables e below (T1.setTop (mkF m 29 #[.val (.int p0), .val (.long p1), .second, .val (.long p2), .second, .val (.ref s_BUY), .val (.long ((((p0 >>> ((2 : Int32) &&& 31)) &&& (3 : Int32)) - (1 : Int32)).toInt64)), .second, .unset, .unset, .unset, .unset] [(.int (2 : Int32)), (.int p0)])) _
    refine XS.iand X1.here hx rfl (hb hby at_29) rfl ?_
    show Steps p.tables e below (T1.setTop (mkF m 30 #[.val (.int p0), .val (.long p1), .second, .val (.long p2), .second, .val (.ref s_BUY), .val (.long ((((p0 >>> ((2 : Int32) &&& 31)) &&& (3 : Int32)) - (1 : Int32)).toInt64)), .second, .unset, .unset, .unset, .unset] [(.int (p0 &&& (2 : Int32)))])) _
    rw [hb1]
    show Steps p.tables e below (T1.setTop (mkF m 30 #[.val (.int p0), .val (.long p1), .second, .val (.long p2), .second, .val (.ref s_BUY), .val (.long ((((p0 >>> ((2 : Int32) &&& 31)) &&& (3 : Int32)) - (1 : Int32)).toInt64)), .second, .unset, .unset, .unset, .unset] [(.int (2 : Int32))])) _
    refine XS.ifNo X1.here hx rfl (hb hby at_30) rfl (by decide +kernel) ?_
    show Steps p.tables e below (T1.setTop (mkF m 33 #[.val (.int p0), .val (.long p1), .second, .val (.long p2), .second, .val (.ref s_BUY), .val (.long ((((p0 >>> ((2 : Int32) &&& 31)) &&& (3 : Int32)) - (1 : Int32)).toInt64)), .second, .unset, .unset, .unset, .unset] [])) _
    refine XS.lloadN X1.here hx rfl (hb hby at_33) rfl ?_
    show Steps p.tables e below (T1.setTop (mkF m 34 #[.val (.int p0), .val (.long p1), .second, .val (.long p2), .second, .val (.ref s_BUY), .val (.long ((((p0 >>> ((2 : Int32) &&& 31)) &&& (3 : Int32)) - (1 : Int32)).toInt64)), .second, .unset, .unset, .unset, .unset] [(.long p1)])) _
    refine XS.lload X1.here hx rfl (hb hby at_34) rfl ?_
    show Steps p.tables e below (T1.setTop (mkF m 36 #[.val (.int p0), .val (.long p1), .second, .val (.long p2), .second, .val (.ref s_BUY), .val (.long ((((p0 >>> ((2 : Int32) &&& 31)) &&& (3 : Int32)) - (1 : Int32)).toInt64)), .second, .unset, .unset, .unset, .unset] [(.long ((((p0 >>> ((2 : Int32) &&& 31)) &&& (3 : Int32)) - (1 : Int32)).toInt64)), (.long p1)])) _
    refine XS.ladd X1.here hx rfl (hb hby at_36) rfl ?_
    show Steps p.tables e below (T1.setTop (mkF m 37 #[.val (.int p0), .val (.long p1), .second, .val (.long p2), .second, .val (.ref s_BUY), .val (.long ((((p0 >>> ((2 : Int32) &&& 31)) &&& (3 : Int32)) - (1 : Int32)).toInt64)), .second, .unset, .unset, .unset, .unset] [(.long (p1 + ((((p0 >>> ((2 : Int32) &&& 31)) &&& (3 : Int32)) - (1 : Int32)).toInt64)))])) _
    refine XS.goto X1.here hx rfl (pc0 := 37) (pc' := 41) rfl (hb hby at_37) (by decide) (by decide) ?_
    show Steps p.tables e below (T1.setTop (mkF m 41 #[.val (.int p0), .val (.long p1), .second, .val (.long p2), .second, .val (.ref s_BUY), .val (.long ((((p0 >>> ((2 : Int32) &&& 31)) &&& (3 : Int32)) - (1 : Int32)).toInt64)), .second, .unset, .unset, .unset, .unset] [(.long (p1 + ((((p0 >>> ((2 : Int32) &&& 31)) &&& (3 : Int32)) - (1 : Int32)).toInt64)))])) _
    refine XS.lstore X1.here hx rfl (hb hby at_41) rfl (l' := #[.val (.int p0), .val (.long p1), .second, .val (.long p2), .second, .val (.ref s_BUY), .val (.long ((((p0 >>> ((2 : Int32) &&& 31)) &&& (3 : Int32)) - (1 : Int32)).toInt64)), .second, .val (.long (p1 + ((((p0 >>> ((2 : Int32) &&& 31)) &&& (3 : Int32)) - (1 : Int32)).toInt64))), .second, .unset, .unset]) rfl ?_
    show Steps p.tables e below (T1.setTop (mkF m 43 #[.val (.int p0), .val (.long p1), .second, .val (.long p2), .second, .val (.ref s_BUY), .val (.long ((((p0 >>> ((2 : Int32) &&& 31)) &&& (3 : Int32)) - (1 : Int32)).toInt64)), .second, .val (.long (p1 + ((((p0 >>> ((2 : Int32) &&& 31)) &&& (3 : Int32)) - (1 : Int32)).toInt64))), .second, .unset, .unset] [])) _
    refine XS.aload X1.here hx rfl (hb hby at_43) rfl rfl ?_
    show Steps p.tables e below (T1.setTop (mkF m 45 #[.val (.int p0), .val (.long p1), .second, .val (.long p2), .second, .val (.ref s_BUY), .val (.long ((((p0 >>> ((2 : Int32) &&& 31)) &&& (3 : Int32)) - (1 : Int32)).toInt64)), .second, .val (.long (p1 + ((((p0 >>> ((2 : Int32) &&& 31)) &&& (3 : Int32)) - (1 : Int32)).toInt64))), .second, .unset, .unset] [(.ref s_BUY)])) _
    refine XS.lloadN X1.here hx rfl (hb hby at_45) rfl ?_
    show Steps p.tables e below (T1.setTop (mkF m 46 #[.val (.int p0), .val (.long p1), .second, .val (.long p2), .second, .val (.ref s_BUY), .val (.long ((((p0 >>> ((2 : Int32) &&& 31)) &&& (3 : Int32)) - (1 : Int32)).toInt64)), .second, .val (.long (p1 + ((((p0 >>> ((2 : Int32) &&& 31)) &&& (3 : Int32)) - (1 : Int32)).toInt64))), .second, .unset, .unset] [(.long p1), (.ref s_BUY)])) _
    refine XS.lload X1.here hx rfl (hb hby at_46) rfl ?_
    show Steps p.tables e below (T1.setTop (mkF m 48 #[.val (.int p0), .val (.long p1), .second, .val (.long p2), .second, .val (.ref s_BUY), .val (.long ((((p0 >>> ((2 : Int32) &&& 31)) &&& (3 : Int32)) - (1 : Int32)).toInt64)), .second, .val (.long (p1 + ((((p0 >>> ((2 : Int32) &&& 31)) &&& (3 : Int32)) - (1 : Int32)).toInt64))), .second, .unset, .unset] [(.long (p1 + ((((p0 >>> ((2 : Int32) &&& 31)) &&& (3 : Int32)) - (1 : Int32)).toInt64))), (.long p1), (.ref s_BUY)])) _
    refine st2.trans ?_
    show Steps p.tables e below (T2.setTop (mkF m 51 #[.val (.int p0), .val (.long p1), .second, .val (.long p2), .second, .val (.ref s_BUY), .val (.long ((((p0 >>> ((2 : Int32) &&& 31)) &&& (3 : Int32)) - (1 : Int32)).toInt64)), .second, .val (.long (p1 + ((((p0 >>> ((2 : Int32) &&& 31)) &&& (3 : Int32)) - (1 : Int32)).toInt64))), .second, .unset, .unset] [(.int (1 : Int32))])) _
    refine XS.istore X2.here hx rfl (hb hby at_51) rfl (l' := #[.val (.int p0), .val (.long p1), .second, .val (.long p2), .second, .val (.ref s_BUY), .val (.long ((((p0 >>> ((2 : Int32) &&& 31)) &&& (3 : Int32)) - (1 : Int32)).toInt64)), .second, .val (.long (p1 + ((((p0 >>> ((2 : Int32) &&& 31)) &&& (3 : Int32)) - (1 : Int32)).toInt64))), .second, .val (.int (1 : Int32)), .unset]) rfl ?_
    show Steps p.tables e below (T2.setTop (mkF m 53 #[.val (.int p0), .val (.long p1), .second, .val (.long p2), .second, .val (.ref s_BUY), .val (.long ((((p0 >>> ((2 : Int32) &&& 31)) &&& (3 : Int32)) - (1 : Int32)).toInt64)), .second, .val (.long (p1 + ((((p0 >>> ((2 : Int32) &&& 31)) &&& (3 : Int32)) - (1 : Int32)).toInt64))), .second, .val (.int (1 : Int32)), .unset] [])) _
    refine XS.aload X2.here hx rfl (hb hby at_53) rfl rfl ?_
    show Steps p.tables e below (T2.setTop (mkF m 55 #[.val (.int p0), .val (.long p1), .second, .val (.long p2), .second, .val (.ref s_BUY), .val (.long ((((p0 >>> ((2 : Int32) &&& 31)) &&& (3 : Int32)) - (1 : Int32)).toInt64)), .second, .val (.long (p1 + ((((p0 >>> ((2 : Int32) &&& 31)) &&& (3 : Int32)) - (1 : Int32)).toInt64))), .second, .val (.int (1 : Int32)), .unset] [(.ref s_BUY)])) _
    refine st3 _ ?_
    show Steps p.tables e below (T3.setTop (mkF m 58 #[.val (.int p0), .val (.long p1), .second, .val (.long p2), .second, .val (.ref s_BUY), .val (.long ((((p0 >>> ((2 : Int32) &&& 31)) &&& (3 : Int32)) - (1 : Int32)).toInt64)), .second, .val (.long (p1 + ((((p0 >>> ((2 : Int32) &&& 31)) &&& (3 : Int32)) - (1 : Int32)).toInt64))), .second, .val (.int (1 : Int32)), .unset] [(.ref s_BUY), (.ref s_BUY)])) _
    refine Jvm.RoadKit.acmp (g := (mkF m 58 #[.val (.int p0), .val (.long p1), .second, .val (.long p2), .second, .val (.ref s_BUY), .val (.long ((((p0 >>> ((2 : Int32) &&& 31)) &&& (3 : Int32)) - (1 : Int32)).toInt64)), .second, .val (.long (p1 + ((((p0 >>> ((2 : Int32) &&& 31)) &&& (3 : Int32)) - (1 : Int32)).toInt64))), .second, .val (.int (1 : Int32)), .unset] [(.ref s_BUY), (.ref s_BUY)])) X3 hx rfl rfl rfl (pc0 := 58) (pc' := 61) (same := true) rfl (hb hby at_58) rfl (decide_eq_true rfl) (by decide) (by decide) ?_
    show Steps p.tables e below (T3.setTop (mkF m 61 #[.val (.int p0), .val (.long p1), .second, .val (.long p2), .second, .val (.ref s_BUY), .val (.long ((((p0 >>> ((2 : Int32) &&& 31)) &&& (3 : Int32)) - (1 : Int32)).toInt64)), .second, .val (.long (p1 + ((((p0 >>> ((2 : Int32) &&& 31)) &&& (3 : Int32)) - (1 : Int32)).toInt64))), .second, .val (.int (1 : Int32)), .unset] [])) _
    refine XS.lloadN X3.here hx rfl (hb hby at_61) rfl ?_
    show Steps p.tables e below (T3.setTop (mkF m 62 #[.val (.int p0), .val (.long p1), .second, .val (.long p2), .second, .val (.ref s_BUY), .val (.long ((((p0 >>> ((2 : Int32) &&& 31)) &&& (3 : Int32)) - (1 : Int32)).toInt64)), .second, .val (.long (p1 + ((((p0 >>> ((2 : Int32) &&& 31)) &&& (3 : Int32)) - (1 : Int32)).toInt64))), .second, .val (.int (1 : Int32)), .unset] [(.long p1)])) _
    refine XS.lload X3.here hx rfl (hb hby at_62) rfl ?_
    show Steps p.tables e below (T3.setTop (mkF m 64 #[.val (.int p0), .val (.long p1), .second, .val (.long p2), .second, .val (.ref s_BUY), .val (.long ((((p0 >>> ((2 : Int32) &&& 31)) &&& (3 : Int32)) - (1 : Int32)).toInt64)), .second, .val (.long (p1 + ((((p0 >>> ((2 : Int32) &&& 31)) &&& (3 : Int32)) - (1 : Int32)).toInt64))), .second, .val (.int (1 : Int32)), .unset] [(.long (p1 + ((((p0 >>> ((2 : Int32) &&& 31)) &&& (3 : Int32)) - (1 : Int32)).toInt64))), (.long p1)])) _
    refine st4 _ ?_
    show Steps p.tables e below (T4.setTop (mkF m 67 #[.val (.int p0), .val (.long p1), .second, .val (.long p2), .second, .val (.ref s_BUY), .val (.long ((((p0 >>> ((2 : Int32) &&& 31)) &&& (3 : Int32)) - (1 : Int32)).toInt64)), .second, .val (.long (p1 + ((((p0 >>> ((2 : Int32) &&& 31)) &&& (3 : Int32)) - (1 : Int32)).toInt64))), .second, .val (.int (1 : Int32)), .unset] [(.long p1)])) _
    refine XS.lloadN X4.here hx rfl (hb hby at_67) rfl ?_
    show Steps p.tables e below (T4.setTop (mkF m 68 #[.val (.int p0), .val (.long p1), .second, .val (.long p2), .second, .val (.ref s_BUY), .val (.long ((((p0 >>> ((2 : Int32) &&& 31)) &&& (3 : Int32)) - (1 : Int32)).toInt64)), .second, .val (.long (p1 + ((((p0 >>> ((2 : Int32) &&& 31)) &&& (3 : Int32)) - (1 : Int32)).toInt64))), .second, .val (.int (1 : Int32)), .unset] [(.long p1), (.long p1)])) _
    refine XS.lcmp X4.here hx rfl (hb hby at_68) rfl ?_
    show Steps p.tables e below (T4.setTop (mkF m 69 #[.val (.int p0), .val (.long p1), .second, .val (.long p2), .second, .val (.ref s_BUY), .val (.long ((((p0 >>> ((2 : Int32) &&& 31)) &&& (3 : Int32)) - (1 : Int32)).toInt64)), .second, .val (.long (p1 + ((((p0 >>> ((2 : Int32) &&& 31)) &&& (3 : Int32)) - (1 : Int32)).toInt64))), .second, .val (.int (1 : Int32)), .unset] [(.int (lcmpW p1 p1))])) _
    rw [own_lc_eq (rfl : p1 = p1)]
    show Steps p.tables e below (T4.setTop (mkF m 69 #[.val (.int p0), .val (.long p1), .second, .val (.long p2), .second, .val (.ref s_BUY), .val (.long ((((p0 >>> ((2 : Int32) &&& 31)) &&& (3 : Int32)) - (1 : Int32)).toInt64)), .second, .val (.long (p1 + ((((p0 >>> ((2 : Int32) &&& 31)) &&& (3 : Int32)) - (1 : Int32)).toInt64))), .second, .val (.int (1 : Int32)), .unset] [(.int (0 : Int32))])) _
    refine XS.ifNo X4.here hx rfl (hb hby at_69) rfl (by decide +kernel) ?_
    show Steps p.tables e below (T4.setTop (mkF m 72 #[.val (.int p0), .val (.long p1), .second, .val (.long p2), .second, .val (.ref s_BUY), .val (.long ((((p0 >>> ((2 : Int32) &&& 31)) &&& (3 : Int32)) - (1 : Int32)).toInt64)), .second, .val (.long (p1 + ((((p0 >>> ((2 : Int32) &&& 31)) &&& (3 : Int32)) - (1 : Int32)).toInt64))), .second, .val (.int (1 : Int32)), .unset] [])) _
    refine XS.iconst X4.here hx rfl (hb hby at_72) ?_
    show Steps p.tables e below (T4.setTop (mkF m 73 #[.val (.int p0), .val (.long p1), .second, .val (.long p2), .second, .val (.ref s_BUY), .val (.long ((((p0 >>> ((2 : Int32) &&& 31)) &&& (3 : Int32)) - (1 : Int32)).toInt64)), .second, .val (.long (p1 + ((((p0 >>> ((2 : Int32) &&& 31)) &&& (3 : Int32)) - (1 : Int32)).toInt64))), .second, .val (.int (1 : Int32)), .unset] [(.int (1 : Int32))])) _
    refine XS.goto X4.here hx rfl (pc0 := 73) (pc' := 77) rfl (hb hby at_73) (by decide) (by decide) ?_
    show Steps p.tables e below (T4.setTop (mkF m 77 #[.val (.int p0), .val (.long p1), .second, .val (.long p2), .second, .val (.ref s_BUY), .val (.long ((((p0 >>> ((2 : Int32) &&& 31)) &&& (3 : Int32)) - (1 : Int32)).toInt64)), .second, .val (.long (p1 + ((((p0 >>> ((2 : Int32) &&& 31)) &&& (3 : Int32)) - (1 : Int32)).toInt64))), .second, .val (.int (1 : Int32)), .unset] [(.int (1 : Int32))])) _
    refine XS.istore X4.here hx rfl (hb hby at_77) rfl (l' := #[.val (.int p0), .val (.long p1), .second, .val (.long p2), .second, .val (.ref s_BUY), .val (.long ((((p0 >>> ((2 : Int32) &&& 31)) &&& (3 : Int32)) - (1 : Int32)).toInt64)), .second, .val (.long (p1 + ((((p0 >>> ((2 : Int32) &&& 31)) &&& (3 : Int32)) - (1 : Int32)).toInt64))), .second, .val (.int (1 : Int32)), .val (.int (1 : Int32))]) rfl ?_
    show Steps p.tables e below (T4.setTop (mkF m 79 #[.val (.int p0), .val (.long p1), .second, .val (.long p2), .second, .val (.ref s_BUY), .val (.long ((((p0 >>> ((2 : Int32) &&& 31)) &&& (3 : Int32)) - (1 : Int32)).toInt64)), .second, .val (.long (p1 + ((((p0 >>> ((2 : Int32) &&& 31)) &&& (3 : Int32)) - (1 : Int32)).toInt64))), .second, .val (.int (1 : Int32)), .val (.int (1 : Int32))] [])) _
    refine XS.goto X4.here hx rfl (pc0 := 79) (pc' := 100) rfl (hb hby at_79) (by decide) (by decide) ?_
    show Steps p.tables e below (T4.setTop (mkF m 100 #[.val (.int p0), .val (.long p1), .second, .val (.long p2), .second, .val (.ref s_BUY), .val (.long ((((p0 >>> ((2 : Int32) &&& 31)) &&& (3 : Int32)) - (1 : Int32)).toInt64)), .second, .val (.long (p1 + ((((p0 >>> ((2 : Int32) &&& 31)) &&& (3 : Int32)) - (1 : Int32)).toInt64))), .second, .val (.int (1 : Int32)), .val (.int (1 : Int32))] [])) _
    refine XS.iload X4.here hx rfl (hb hby at_100) rfl ?_
    show Steps p.tables e below (T4.setTop (mkF m 102 #[.val (.int p0), .val (.long p1), .second, .val (.long p2), .second, .val (.ref s_BUY), .val (.long ((((p0 >>> ((2 : Int32) &&& 31)) &&& (3 : Int32)) - (1 : Int32)).toInt64)), .second, .val (.long (p1 + ((((p0 >>> ((2 : Int32) &&& 31)) &&& (3 : Int32)) - (1 : Int32)).toInt64))), .second, .val (.int (1 : Int32)), .val (.int (1 : Int32))] [(.int (1 : Int32))])) _
    refine XS.iload X4.here hx rfl (hb hby at_102) rfl ?_
    show Steps p.tables e below (T4.setTop (mkF m 104 #[.val (.int p0), .val (.long p1), .second, .val (.long p2), .second, .val (.ref s_BUY), .val (.long ((((p0 >>> ((2 : Int32) &&& 31)) &&& (3 : Int32)) - (1 : Int32)).toInt64)), .second, .val (.long (p1 + ((((p0 >>> ((2 : Int32) &&& 31)) &&& (3 : Int32)) - (1 : Int32)).toInt64))), .second, .val (.int (1 : Int32)), .val (.int (1 : Int32))] [(.int (1 : Int32)), (.int (1 : Int32))])) _
    refine XS.icmpNo X4.here hx rfl (hb hby at_104) rfl (by decide +kernel) ?_
    show Steps p.tables e below (T4.setTop (mkF m 107 #[.val (.int p0), .val (.long p1), .second, .val (.long p2), .second, .val (.ref s_BUY), .val (.long ((((p0 >>> ((2 : Int32) &&& 31)) &&& (3 : Int32)) - (1 : Int32)).toInt64)), .second, .val (.long (p1 + ((((p0 >>> ((2 : Int32) &&& 31)) &&& (3 : Int32)) - (1 : Int32)).toInt64))), .second, .val (.int (1 : Int32)), .val (.int (1 : Int32))] [])) _
    refine XS.iconst X4.here hx rfl (hb hby at_107) ?_
    show Steps p.tables e below (T4.setTop (mkF m 108 #[.val (.int p0), .val (.long p1), .second, .val (.long p2), .second, .val (.ref s_BUY), .val (.long ((((p0 >>> ((2 : Int32) &&& 31)) &&& (3 : Int32)) - (1 : Int32)).toInt64)), .second, .val (.long (p1 + ((((p0 >>> ((2 : Int32) &&& 31)) &&& (3 : Int32)) - (1 : Int32)).toInt64))), .second, .val (.int (1 : Int32)), .val (.int (1 : Int32))] [(.int (1 : Int32))])) _
    refine XS.goto X4.here hx rfl (pc0 := 108) (pc' := 112) rfl (hb hby at_108) (by decide) (by decide) ?_
    show Steps p.tables e below (T4.setTop (mkF m 112 #[.val (.int p0), .val (.long p1), .second, .val (.long p2), .second, .val (.ref s_BUY), .val (.long ((((p0 >>> ((2 : Int32) &&& 31)) &&& (3 : Int32)) - (1 : Int32)).toInt64)), .second, .val (.long (p1 + ((((p0 >>> ((2 : Int32) &&& 31)) &&& (3 : Int32)) - (1 : Int32)).toInt64))), .second, .val (.int (1 : Int32)), .val (.int (1 : Int32))] [(.int (1 : Int32))])) _
    exact retN X4 hx (t := .boolean) Bd.returns (by simp) (hb hby at_112) hr
  · exact ⟨rfl, N4, e4⟩
set_option maxRecDepth 65536 in
set_option maxHeartbeats 40000000 in
theorem r33 (l : Launch) (Z : State) (a0 : Array Value) (hw : ∀ d ∈ tables_1, d.before a0 Z = true) (ws : List Jvm.Cond) (h0 : Heap) (n0 : Nat) (s_SELL : Addr) (s_BUY : Addr) (K : Ctx Z h0 s_SELL s_BUY) (p0 : Int32) (p1 : Int64) (hc : p1 < (p1 + ((((p0 >>> ((2 : Int32) &&& 31)) &&& (3 : Int32)) - (1 : Int32)).toInt64))) :
    MetFree l (⟨"com/example/bookfence/bookfence/engine/Side", "allows", "(JJ)Z"⟩ : MethodName) (head1 (Jvm.Cond.code (⟨"com/example/bookfence/bookfence/engine/Side", "allows", "(JJ)Z"⟩ : MethodName) prog_44_method_5_code 5 (some .boolean) :: ws) ({ frames := 0, cells := 0, slots := 0, locals := 0 } : Room)) (fun a U => a = #[(.ref s_BUY), (.long p1), (.long (p1 + ((((p0 >>> ((2 : Int32) &&& 31)) &&& (3 : Int32)) - (1 : Int32)).toInt64)))] ∧ Z.Warmed39 U.vm ∧ U.heap = h0) (fun _ _ _ _ _ => True) (fun _ U o U' => ∃ v L, o = .returned v ∧ QV (.int (0 : Int32)) h0 n0 v U'.heap L ∧ FrameEnd U o U' L ({ frames := 0, cells := 0, slots := 0, locals := 0 } : Room).cells ({ frames := 0, cells := 0, slots := 0, locals := 0 } : Room).slots) := by
  obtain ⟨S_SELL, S_BUY, ne_BUY_SELL, E_SELL, E_BUY⟩ := id K
  refine MetFree.of_bodySF (plainFor_of_name pn0) hisR ?_
  intro p e s m args below meth c s₁ Bd hml0 hP hK
  obtain ⟨rfl, hZ, hh⟩ := hP
  have hx := Bd.exec
  have hby := Bd.bytes
  have hml : c.maxLocals = 5 := hml0
  have hown : s.vm.findClass "com/example/bookfence/bookfence/engine/Side" = some m.cls := findClass_of_methodNamed Bd.named
  have X0 : Stand p l e ({ frames := 0, cells := 0, slots := 0, locals := 0 } : Room) s m #[(.ref s_BUY), (.long p1), (.long (p1 + ((((p0 >>> ((2 : Int32) &&& 31)) &&& (3 : Int32)) - (1 : Int32)).toInt64)))] below meth c s₁ [] 0 0 := Stand.of_body Bd
  have e0 : s₁.heap = h0 := by rw [← hh, Bd.state]; rfl
  have N0 := Fr.nil n0
  have pre0 : ∀ t, Steps p.tables e below (s₁.setTop (mkF m 0 #[.val (.ref s_BUY), .val (.long p1), .second, .val (.long (p1 + ((((p0 >>> ((2 : Int32) &&& 31)) &&& (3 : Int32)) - (1 : Int32)).toInt64))), .second] [])) t → Steps p.tables e below (s₁.setTop (entryFrame m #[(.ref s_BUY), (.long p1), (.long (p1 + ((((p0 >>> ((2 : Int32) &&& 31)) &&& (3 : Int32)) - (1 : Int32)).toInt64)))] 5)) t := fun t k => castTop (by first | (simp [entryFrame, mkF, argsToLocals, Value.category]; done) | rfl) k
  obtain ⟨T1, X1, e1, st1⟩ := getS X0 hx hZ hown (host := "") (hw _ (List.mem_of_getElem? (i := 8) rfl)) Via.refl e0 S_BUY (g := (mkF m 1 #[.val (.ref s_BUY), .val (.long p1), .second, .val (.long (p1 + ((((p0 >>> ((2 : Int32) &&& 31)) &&& (3 : Int32)) - (1 : Int32)).toInt64))), .second] [(.ref s_BUY)])) rfl (hb hby d0_1)
  obtain ⟨fs, hr, hrun, hended, hW, hsame⟩ := X1.leave (v := some (.int (0 : Int32))) (fun h => by rw [Bd.returns] at h; cases h)
  refine ⟨_, _, pre0 _ ?_, hrun, hended, _, _, rfl, ?_, ⟨_, rfl⟩, hW, hsame.mono (by decide) (by decide)⟩
  · show Steps p.tables e below (s₁.setTop (mkF m 0 #[.val (.ref s_BUY), .val (.long p1), .second, .val (.long (p1 + ((((p0 >>> ((2 : Int32) &&& 31)) &&& (3 : Int32)) - (1 : Int32)).toInt64))), .second] [])) _
    refine XS.aloadN X0.here hx rfl (hb hby d0_0) rfl rfl ?_
    show Steps p.tables e below (s₁.setTop (mkF m 1 #[.val (.ref s_BUY), .val (.long p1), .second, .val (.long (p1 + ((((p0 >>> ((2 : Int32) &&& 31)) &&& (3 : Int32)) - (1 : Int32)).toInt64))), .second] [(.ref s_BUY)])) _
    refine st1 _ ?_
    show Steps p.tables e below (T1.setTop (mkF m 4 #[.val (.ref s_BUY), .val (.long p1), .second, .val (.long (p1 + ((((p0 >>> ((2 : Int32) &&& 31)) &&& (3 : Int32)) - (1 : Int32)).toInt64))), .second] [(.ref s_BUY), (.ref s_BUY)])) _
    refine Jvm.RoadKit.acmp (g := (mkF m 4 #[.val (.ref s_BUY), .val (.long p1), .second, .val (.long (p1 + ((((p0 >>> ((2 : Int32) &&& 31)) &&& (3 : Int32)) - (1 : Int32)).toInt64))), .second] [(.ref s_BUY), (.ref s_BUY)])) X1 hx rfl rfl rfl (pc0 := 4) (pc' := 7) (same := true) rfl (hb hby d0_4) rfl (decide_eq_true rfl) (by decide) (by decide) ?_
    show Steps p.tables e below (T1.setTop (mkF m 7 #[.val (.ref s_BUY), .val (.long p1), .second, .val (.long (p1 + ((((p0 >>> ((2 : Int32) &&& 31)) &&& (3 : Int32)) - (1 : Int32)).toInt64))), .second] [])) _
    refine XS.lloadN X1.here hx rfl (hb hby d0_7) rfl ?_
    show Steps p.tables e below (T1.setTop (mkF m 8 #[.val (.ref s_BUY), .val (.long p1), .second, .val (.long (p1 + ((((p0 >>> ((2 : Int32) &&& 31)) &&& (3 : Int32)) - (1 : Int32)).toInt64))), .second] [(.long (p1 + ((((p0 >>> ((2 : Int32) &&& 31)) &&& (3 : Int32)) - (1 : Int32)).toInt64)))])) _
    refine XS.lloadN X1.here hx rfl (hb hby d0_8) rfl ?_
    show Steps p.tables e below (T1.setTop (mkF m 9 #[.val (.ref s_BUY), .val (.long p1), .second, .val (.long (p1 + ((((p0 >>> ((2 : Int32) &&& 31)) &&& (3 : Int32)) - (1 : Int32)).toInt64))), .second] [(.long p1), (.long (p1 + ((((p0 >>> ((2 : Int32) &&& 31)) &&& (3 : Int32)) - (1 : Int32)).toInt64)))])) _
    refine XS.lcmp X1.here hx rfl (hb hby d0_9) rfl ?_
    show Steps p.tables e below (T1.setTop (mkF m 10 #[.val (.ref s_BUY), .val (.long p1), .second, .val (.long (p1 + ((((p0 >>> ((2 : Int32) &&& 31)) &&& (3 : Int32)) - (1 : Int32)).toInt64))), .second] [(.int (lcmpW (p1 + ((((p0 >>> ((2 : Int32) &&& 31)) &&& (3 : Int32)) - (1 : Int32)).toInt64)) p1))])) _
    rw [own_lc_gt hc]
    show Steps p.tables e below (T1.setTop (mkF m 10 #[.val (.ref s_BUY), .val (.long p1), .second, .val (.long (p1 + ((((p0 >>> ((2 : Int32) &&& 31)) &&& (3 : Int32)) - (1 : Int32)).toInt64))), .second] [(.int (1 : Int32))])) _
    refine XS.ifYes X1.here hx rfl (pc0 := 10) (pc' := 17) rfl (hb hby d0_10) rfl (by decide +kernel) (by decide) (by decide) ?_
    show Steps p.tables e below (T1.setTop (mkF m 17 #[.val (.ref s_BUY), .val (.long p1), .second, .val (.long (p1 + ((((p0 >>> ((2 : Int32) &&& 31)) &&& (3 : Int32)) - (1 : Int32)).toInt64))), .second] [])) _
    refine XS.iconst X1.here hx rfl (hb hby d0_17) ?_
    show Steps p.tables e below (T1.setTop (mkF m 18 #[.val (.ref s_BUY), .val (.long p1), .second, .val (.long (p1 + ((((p0 >>> ((2 : Int32) &&& 31)) &&& (3 : Int32)) - (1 : Int32)).toInt64))), .second] [(.int (0 : Int32))])) _
    refine XS.goto X1.here hx rfl (pc0 := 18) (pc' := 32) rfl (hb hby d0_18) (by decide) (by decide) ?_
    show Steps p.tables e below (T1.setTop (mkF m 32 #[.val (.ref s_BUY), .val (.long p1), .second, .val (.long (p1 + ((((p0 >>> ((2 : Int32) &&& 31)) &&& (3 : Int32)) - (1 : Int32)).toInt64))), .second] [(.int (0 : Int32))])) _
    exact retN X1 hx (t := .boolean) Bd.returns (by simp) (hb hby d0_32) hr
  · exact ⟨rfl, N0, e1⟩
set_option maxRecDepth 65536 in
set_option maxHeartbeats 40000000 in
theorem r34 (l : Launch) (Z : State) (a0 : Array Value) (hw : ∀ d ∈ tables_1, d.before a0 Z = true) (ws : List Jvm.Cond) (h0 : Heap) (n0 : Nat) (s_SELL : Addr) (s_BUY : Addr) (K : Ctx Z h0 s_SELL s_BUY) (p0 : Int32) (p1 : Int64) (hc : p1 < (p1 + ((((p0 >>> ((2 : Int32) &&& 31)) &&& (3 : Int32)) - (1 : Int32)).toInt64))) :
    MetFree l (⟨"java/lang/Math", "max", "(JJ)J"⟩ : MethodName) (head1 (Jvm.Cond.code (⟨"java/lang/Math", "max", "(JJ)J"⟩ : MethodName) jdk_29_method_66_code 4 (some .long) :: ws) ({ frames := 0, cells := 0, slots := 0, locals := 0 } : Room)) (fun a U => a = #[(.long p1), (.long (p1 + ((((p0 >>> ((2 : Int32) &&& 31)) &&& (3 : Int32)) - (1 : Int32)).toInt64)))] ∧ Z.Warmed39 U.vm ∧ U.heap = h0) (fun _ _ _ _ _ => True) (fun _ U o U' => ∃ v L, o = .returned v ∧ QV (.long (p1 + ((((p0 >>> ((2 : Int32) &&& 31)) &&& (3 : Int32)) - (1 : Int32)).toInt64))) h0 n0 v U'.heap L ∧ FrameEnd U o U' L ({ frames := 0, cells := 0, slots := 0, locals := 0 } : Room).cells ({ frames := 0, cells := 0, slots := 0, locals := 0 } : Room).slots) := by
  obtain ⟨S_SELL, S_BUY, ne_BUY_SELL, E_SELL, E_BUY⟩ := id K
  refine MetFree.of_bodySF (Jvm.Free.JP.mathPlain rfl (by decide +kernel)) hisR ?_
  intro p e s m args below meth c s₁ Bd hml0 hP hK
  obtain ⟨rfl, hZ, hh⟩ := hP
  have hx := Bd.exec
  have hby := Bd.bytes
  have hml : c.maxLocals = 4 := hml0
  have hown : s.vm.findClass "java/lang/Math" = some m.cls := findClass_of_methodNamed Bd.named
  have X0 : Stand p l e ({ frames := 0, cells := 0, slots := 0, locals := 0 } : Room) s m #[(.long p1), (.long (p1 + ((((p0 >>> ((2 : Int32) &&& 31)) &&& (3 : Int32)) - (1 : Int32)).toInt64)))] below meth c s₁ [] 0 0 := Stand.of_body Bd
  have e0 : s₁.heap = h0 := by rw [← hh, Bd.state]; rfl
  have N0 := Fr.nil n0
  have pre0 : ∀ t, Steps p.tables e below (s₁.setTop (mkF m 0 #[.val (.long p1), .second, .val (.long (p1 + ((((p0 >>> ((2 : Int32) &&& 31)) &&& (3 : Int32)) - (1 : Int32)).toInt64))), .second] [])) t → Steps p.tables e below (s₁.setTop (entryFrame m #[(.long p1), (.long (p1 + ((((p0 >>> ((2 : Int32) &&& 31)) &&& (3 : Int32)) - (1 : Int32)).toInt64)))] 4)) t := fun t k => castTop (by first | (simp [entryFrame, mkF, argsToLocals, Value.category]; done) | rfl) k
  obtain ⟨fs, hr, hrun, hended, hW, hsame⟩ := X0.leave (v := some (.long (p1 + ((((p0 >>> ((2 : Int32) &&& 31)) &&& (3 : Int32)) - (1 : Int32)).toInt64)))) (fun h => by rw [Bd.returns] at h; cases h)
  refine ⟨_, _, pre0 _ ?_, hrun, hended, _, _, rfl, ?_, ⟨_, rfl⟩, hW, hsame.mono (by decide) (by decide)⟩
  · show Steps p.tables e below (s₁.setTop (mkF m 0 #[.val (.long p1), .second, .val (.long (p1 + ((((p0 >>> ((2 : Int32) &&& 31)) &&& (3 : Int32)) - (1 : Int32)).toInt64))), .second] [])) _
    refine XS.lloadN X0.here hx rfl (hb hby d2_0) rfl ?_
    show Steps p.tables e below (s₁.setTop (mkF m 1 #[.val (.long p1), .second, .val (.long (p1 + ((((p0 >>> ((2 : Int32) &&& 31)) &&& (3 : Int32)) - (1 : Int32)).toInt64))), .second] [(.long p1)])) _
    refine XS.lloadN X0.here hx rfl (hb hby d2_1) rfl ?_
    show Steps p.tables e below (s₁.setTop (mkF m 2 #[.val (.long p1), .second, .val (.long (p1 + ((((p0 >>> ((2 : Int32) &&& 31)) &&& (3 : Int32)) - (1 : Int32)).toInt64))), .second] [(.long (p1 + ((((p0 >>> ((2 : Int32) &&& 31)) &&& (3 : Int32)) - (1 : Int32)).toInt64))), (.long p1)])) _
    refine XS.lcmp X0.here hx rfl (hb hby d2_2) rfl ?_
    show Steps p.tables e below (s₁.setTop (mkF m 3 #[.val (.long p1), .second, .val (.long (p1 + ((((p0 >>> ((2 : Int32) &&& 31)) &&& (3 : Int32)) - (1 : Int32)).toInt64))), .second] [(.int (lcmpW p1 (p1 + ((((p0 >>> ((2 : Int32) &&& 31)) &&& (3 : Int32)) - (1 : Int32)).toInt64))))])) _
    rw [own_lr_gt hc]
    show Steps p.tables e below (s₁.setTop (mkF m 3 #[.val (.long p1), .second, .val (.long (p1 + ((((p0 >>> ((2 : Int32) &&& 31)) &&& (3 : Int32)) - (1 : Int32)).toInt64))), .second] [(.int (-1 : Int32))])) _
    refine XS.ifYes X0.here hx rfl (pc0 := 3) (pc' := 10) rfl (hb hby d2_3) rfl (by decide +kernel) (by decide) (by decide) ?_
    show Steps p.tables e below (s₁.setTop (mkF m 10 #[.val (.long p1), .second, .val (.long (p1 + ((((p0 >>> ((2 : Int32) &&& 31)) &&& (3 : Int32)) - (1 : Int32)).toInt64))), .second] [])) _
    refine XS.lloadN X0.here hx rfl (hb hby d2_10) rfl ?_
    show Steps p.tables e below (s₁.setTop (mkF m 11 #[.val (.long p1), .second, .val (.long (p1 + ((((p0 >>> ((2 : Int32) &&& 31)) &&& (3 : Int32)) - (1 : Int32)).toInt64))), .second] [(.long (p1 + ((((p0 >>> ((2 : Int32) &&& 31)) &&& (3 : Int32)) - (1 : Int32)).toInt64)))])) _
    exact retOut X0 hx (i := .lreturn) Bd.returns rfl (Or.inr (Or.inl ⟨rfl, rfl, _, rfl⟩)) (hb hby d2_11) hr
  · exact ⟨rfl, N0, e0⟩
set_option maxRecDepth 65536 in
set_option maxHeartbeats 40000000 in
theorem law_k1_2_gt (l : Launch) (Z : State) (a0 : Array Value) (hw : ∀ d ∈ tables_1, d.before a0 Z = true) (ws : List Jvm.Cond) (h0 : Heap) (n0 : Nat) (s_SELL : Addr) (s_BUY : Addr) (K : Ctx Z h0 s_SELL s_BUY) (p0 : Int32) (p1 : Int64) (p2 : Int64) (ha : (p0 &&& (1 : Int32)) = (1 : Int32)) (hb1 : (p0 &&& (2 : Int32)) = (2 : Int32)) (hc : p1 < (p1 + ((((p0 >>> ((2 : Int32) &&& 31)) &&& (3 : Int32)) - (1 : Int32)).toInt64))) :
    MetFree l x (head1 (Jvm.Cond.code x code maxLocals ret :: ws) room_1) (fun a U => a = #[(.int p0), (.long p1), (.long p2)] ∧ Z.Warmed39 U.vm ∧ U.heap = h0) (fun _ _ _ _ _ => True) (fun _ U o U' => ∃ v L, o = .returned v ∧ QV (.int (1 : Int32)) h0 n0 v U'.heap L ∧ FrameEnd U o U' L room_1.cells room_1.slots) := by
  obtain ⟨S_SELL, S_BUY, ne_BUY_SELL, E_SELL, E_BUY⟩ := id K
  refine MetFree.of_bodySF (plainFor_of_name pn3) hisR ?_
  intro p e s m args below meth c s₁ Bd hml0 hP hK
  obtain ⟨rfl, hZ, hh⟩ := hP
  have hx := Bd.exec
  have hby := Bd.bytes
  have hml : c.maxLocals = 12 := hml0
  have hown : s.vm.findClass "com/example/bookfence/bookfence/engine/SideAllowsPinLaw" = some m.cls := findClass_of_methodNamed Bd.named
  have X0 : Stand p l e room_1 s m #[(.int p0), (.long p1), (.long p2)] below meth c s₁ [] 0 0 := Stand.of_body Bd
  have e0 : s₁.heap = h0 := by rw [← hh, Bd.state]; rfl
  have N0 := Fr.nil n0
  have pre0 : ∀ t, Steps p.tables e below (s₁.setTop (mkF m 0 #[.val (.int p0), .val (.long p1), .second, .val (.long p2), .second, .unset, .unset, .unset, .unset, .unset, .unset, .unset] [])) t → Steps p.tables e below (s₁.setTop (entryFrame m #[(.int p0), (.long p1), (.long p2)] maxLocals)) t := fun t k => castTop (by first | (simp [entryFrame, mkF, argsToLocals, Value.category, maxLocals]; done) | rfl) k
  obtain ⟨T1, X1, e1, st1⟩ := getS X0 hx hZ hown (host := "") (hw _ (List.mem_of_getElem? (i := 10) rfl)) Via.refl e0 S_BUY (g := (mkF m 6 #[.val (.int p0), .val (.long p1), .second, .val (.long p2), .second, .unset, .unset, .unset, .unset, .unset, .unset, .unset] [])) rfl (hb hby at_6)
  obtain ⟨cq2, kq2, q2a, q2b, q2c⟩ := isOf hZ e1 E_BUY
  obtain ⟨_, _, ⟨T2, L2, k2, n2⟩, -, X2, ⟨Lc2, hQ2, l2, y2, z2⟩, st2⟩ := X1.virtualBack hx (y := (⟨"com/example/bookfence/bookfence/engine/Side", "allows", "(JJ)Z"⟩ : MethodName)) (z := (⟨"com/example/bookfence/bookfence/engine/Side", "allows", "(JJ)Z"⟩ : MethodName)) hown (mvT hZ (hw _ (List.mem_of_getElem? (i := 3) rfl))) (mvT hZ (hw _ (List.mem_of_getElem? (i := 4) rfl))) (notFace_of_selects (args := #[]) (mvT hZ (hw _ (List.mem_of_getElem? (i := 6) rfl)))) (mvT hZ (hw _ (List.mem_of_getElem? (i := 6) rfl))) (mvT hZ (hw _ (List.mem_of_getElem? (i := 5) rfl))) (by decide) (backOf (W := 0) (r33 l Z a0 hw [] h0 n0 s_SELL s_BUY K p0 p1 hc) hZ (hw _ (List.mem_of_getElem? (i := 7) rfl)) (hw _ (List.mem_of_getElem? (i := 1) rfl)) (by decide) (by decide)) q2a q2c (g := (mkF m 48 #[.val (.int p0), .val (.long p1), .second, .val (.long p2), .second, .val (.ref s_BUY), .val (.long ((((p0 >>> ((2 : Int32) &&& 31)) &&& (3 : Int32)) - (1 : Int32)).toInt64)), .second, .val (.long (p1 + ((((p0 >>> ((2 : Int32) &&& 31)) &&& (3 : Int32)) - (1 : Int32)).toInt64))), .second, .unset, .unset] [(.long (p1 + ((((p0 >>> ((2 : Int32) &&& 31)) &&& (3 : Int32)) - (1 : Int32)).toInt64))), (.long p1), (.ref s_BUY)])) rfl (by rw [hml]; rfl) (Steps.refl _) (argsL := [(.long p1), (.long (p1 + ((((p0 >>> ((2 : Int32) &&& 31)) &&& (3 : Int32)) - (1 : Int32)).toInt64)))]) (rest := []) (lenOf pd0 rfl) rfl (by show 2 * 0 + _ ≤ _; exact Nat.le_of_eq rfl) (hb hby at_48) (fun _ _ => ⟨rfl, e1, (by decide : 0 + 0 ≤ _), (by decide : 0 + 0 ≤ _)⟩)
  dsimp only [Pt.U, Pt.locs, Pt.cells, Pt.slots] at X2 l2 y2 z2 st2 hQ2
  subst l2 y2 z2
  obtain ⟨rfl, N2q, e2⟩ := hQ2
  have N2 := Fr.app N0 N2q
  obtain ⟨T3, X3, e3, st3⟩ := getS X2 hx hZ hown (host := "") (hw _ (List.mem_of_getElem? (i := 10) rfl)) Via.refl e2 S_BUY (g := (mkF m 55 #[.val (.int p0), .val (.long p1), .second, .val (.long p2), .second, .val (.ref s_BUY), .val (.long ((((p0 >>> ((2 : Int32) &&& 31)) &&& (3 : Int32)) - (1 : Int32)).toInt64)), .second, .val (.long (p1 + ((((p0 >>> ((2 : Int32) &&& 31)) &&& (3 : Int32)) - (1 : Int32)).toInt64))), .second, .val (.int (0 : Int32)), .unset] [(.ref s_BUY)])) rfl (hb hby at_55)
  obtain ⟨_, _, ⟨T4, L4, k4, n4⟩, -, X4, ⟨Lc4, hQ4, l4, y4, z4⟩, st4⟩ := Jvm.LawKit.callS X3 hx (y := (⟨"java/lang/Math", "max", "(JJ)J"⟩ : MethodName)) hown (mvT hZ (hw _ (List.mem_of_getElem? (i := 15) rfl))) (mvT hZ (hw _ (List.mem_of_getElem? (i := 16) rfl))) (mvT hZ (hw _ (List.mem_of_getElem? (i := 13) rfl))) (mvT hZ (hw _ (List.mem_of_getElem? (i := 17) rfl))) (by decide) (backOf (W := 0) (r34 l Z a0 hw [] h0 n0 s_SELL s_BUY K p0 p1 hc) hZ (hw _ (List.mem_of_getElem? (i := 17) rfl)) (hw _ (List.mem_of_getElem? (i := 13) rfl)) (by decide) (by decide)) (g := (mkF m 64 #[.val (.int p0), .val (.long p1), .second, .val (.long p2), .second, .val (.ref s_BUY), .val (.long ((((p0 >>> ((2 : Int32) &&& 31)) &&& (3 : Int32)) - (1 : Int32)).toInt64)), .second, .val (.long (p1 + ((((p0 >>> ((2 : Int32) &&& 31)) &&& (3 : Int32)) - (1 : Int32)).toInt64))), .second, .val (.int (0 : Int32)), .unset] [(.long (p1 + ((((p0 >>> ((2 : Int32) &&& 31)) &&& (3 : Int32)) - (1 : Int32)).toInt64))), (.long p1)])) rfl (by rw [hml]; rfl) (argsL := [(.long p1), (.long (p1 + ((((p0 >>> ((2 : Int32) &&& 31)) &&& (3 : Int32)) - (1 : Int32)).toInt64)))]) (rest := []) (lenOf pd1 rfl) rfl (by show 2 * 0 + _ ≤ _; exact Nat.le_of_eq rfl) (hb hby at_64) (fun _ _ => ⟨rfl, e3, (by decide : 0 + 0 ≤ _), (by decide : 0 + 0 ≤ _)⟩)
  dsimp only [Pt.U, Pt.locs, Pt.cells, Pt.slots] at X4 l4 y4 z4 st4 hQ4
  subst l4 y4 z4
  obtain ⟨rfl, N4q, e4⟩ := hQ4
  have N4 := Fr.app N2 N4q
  obtain ⟨fs, hr, hrun, hended, hW, hsame⟩ := X4.leave (v := some (.int (1 : Int32))) (fun h => by rw [Bd.returns] at h; cases h)
  refine ⟨_, _, pre0 _ ?_, hrun, hended, _, _, rfl, ?_, ⟨_, rfl⟩, hW, hsame.mono (by decide) (by decide)⟩
  · show Steps p.tables e below (s₁.setTop (mkF m 0 #[.val (.int p0), .val (.long p1), .second, .val (.long p2), .second, .unset, .unset, .unset, .unset, .unset, .unset, .unset] [])) _
    refine XS.iloadN X0.here hx rfl (hb hby at_0) rfl ?_
    show Steps p.tables e below (s₁.setTop (mkF m 1 #[.val (.int p0), .val (.long p1), .second, .val (.long p2), .second, .unset, .unset, .unset, .unset, .unset, .unset, .unset] [(.int p0)])) _
    refine XS.iconst X0.here hx rfl (hb hby at_1) ?_
    show Steps p.tables e below (s₁.setTop (mkF m 2 #[.val (.int p0), .val (.long p1), .second, .val (.long p2), .second, .unset, .unset, .unset, .unset, .unset, .unset, .unset] [(.int (1 : Int32)), (.int p0)])) _
    refine XS.iand X0.here hx rfl (hb hby at_2) rfl ?_
    show Steps p.tables e below (s₁.setTop (mkF m 3 #[.val (.int p0), .val (.long p1), .second, .val (.long p2), .second, .unset, .unset, .unset, .unset, .unset, .unset, .unset] [(.int (p0 &&& (1 : Int32)))])) _
    rw [ha]
    show Steps p.tables e below (s₁.setTop (mkF m 3 #[.val (.int p0), .val (.long p1), .second, .val (.long p2), .second, .unset, .unset, .unset, .unset, .unset, .unset, .unset] [(.int (1 : Int32))])) _
    refine XS.ifNo X0.here hx rfl (hb hby at_3) rfl (by decide +kernel) ?_
    show Steps p.tables e below (s₁.setTop (mkF m 6 #[.val (.int p0), .val (.long p1), .second, .val (.long p2), .second, .unset, .unset, .unset, .unset, .unset, .unset, .unset] [])) _
    refine st1 _ ?_
    show Steps p.tables e below (T1.setTop (mkF m 9 #[.val (.int p0), .val (.long p1), .second, .val (.long p2), .second, .unset, .unset, .unset, .unset, .unset, .unset, .unset] [(.ref s_BUY)])) _
    refine XS.goto X1.here hx rfl (pc0 := 9) (pc' := 15) rfl (hb hby at_9) (by decide) (by decide) ?_
    show Steps p.tables e below (T1.setTop (mkF m 15 #[.val (.int p0), .val (.long p1), .second, .val (.long p2), .second, .unset, .unset, .unset, .unset, .unset, .unset, .unset] [(.ref s_BUY)])) _
    refine XS.astore X1.here hx rfl (hb hby at_15) rfl rfl (l' := #[.val (.int p0), .val (.long p1), .second, .val (.long p2), .second, .val (.ref s_BUY), .unset, .unset, .unset, .unset, .unset, .unset]) rfl ?_
    show Steps p.tables e below (T1.setTop (mkF m 17 #[.val (.int p0), .val (.long p1), .second, .val (.long p2), .second, .val (.ref s_BUY), .unset, .unset, .unset, .unset, .unset, .unset] [])) _
    refine XS.iloadN X1.here hx rfl (hb hby at_17) rfl ?_
    show Steps p.tables e below (T1.setTop (mkF m 18 #[.val (.int p0), .val (.long p1), .second, .val (.long p2), .second, .val (.ref s_BUY), .unset, .unset, .unset, .unset, .unset, .unset] [(.int p0)])) _
    refine XS.iconst X1.here hx rfl (hb hby at_18) ?_
    show Steps p.tables e below (T1.setTop (mkF m 19 #[.val (.int p0), .val (.long p1), .second, .val (.long p2), .second, .val (.ref s_BUY), .unset, .unset, .unset, .unset, .unset, .unset] [(.int (2 : Int32)), (.int p0)])) _
    refine XS.ishr X1.here hx rfl (hb hby at_19) rfl ?_
    show Steps p.tables e below (T1.setTop (mkF m 20 #[.val (.int p0), .val (.long p1), .second, .val (.long p2), .second, .val (.ref s_BUY), .unset, .unset, .unset, .unset, .unset, .unset] [(.int (p0 >>> ((2 : Int32) &&& 31)))])) _
    refine XS.iconst X1.here hx rfl (hb hby at_20) ?_
    show Steps p.tables e below (T1.setTop (mkF m 21 #[.val (.int p0), .val (.long p1), .second, .val (.long p2), .second, .val (.ref s_BUY), .unset, .unset, .unset, .unset, .unset, .unset] [(.int (3 : Int32)), (.int (p0 >>> ((2 : Int32) &&& 31)))])) _
    refine XS.iand X1.here hx rfl (hb hby at_21) rfl ?_
    show Steps p.tables e below (T1.setTop (mkF m 22 #[.val (.int p0), .val (.long p1), .second, .val (.long p2), .second, .val (.ref s_BUY), .unset, .unset, .unset, .unset, .unset, .unset] [(.int ((p0 >>> ((2 : Int32) &&& 31)) &&& (3 : Int32)))])) _
    refine XS.iconst X1.here hx rfl (hb hby at_22) ?_
    show Steps p.tables e below (T1.setTop (mkF m 23 #[.val (.int p0), .val (.long p1), .second, .val (.long p2), .second, .val (.ref s_BUY), .unset, .unset, .unset, .unset, .unset, .unset] [(.int (1 : Int32)), (.int ((p0 >>> ((2 : Int32) &&& 31)) &&& (3 : Int32)))])) _
    refine XS.isub X1.here hx rfl (hb hby at_23) rfl ?_
    show Steps p.tables e below (T1.setTop (mkF m 24 #[.val (.int p0), .val (.long p1), .second, .val (.long p2), .second, .val (.ref s_BUY), .unset, .unset, .unset, .unset, .unset, .unset] [(.int (((p0 >>> ((2 : Int32) &&& 31)) &&& (3 : Int32)) - (1 : Int32)))])) _
    refine XS.i2l X1.here hx rfl (hb hby at_24) rfl ?_
    show Steps p.tables e below (T1.setTop (mkF m 25 #[.val (.int p0), .val (.long p1), .second, .val (.long p2), .second, .val (.ref s_BUY), .unset, .unset, .unset, .unset, .unset, .unset] [(.long ((((p0 >>> ((2 : Int32) &&& 31)) &&& (3 : Int32)) - (1 : Int32)).toInt64))])) _
    refine XS.lstore X1.here hx rfl (hb hby at_25) rfl (l' := #[.val (.int p0), .val (.long p1), .second, .val (.long p2), .second, .val (.ref s_BUY), .val (.long ((((p0 >>> ((2 : Int32) &&& 31)) &&& (3 : Int32)) - (1 : Int32)).toInt64)), .second, .unset, .unset, .unset, .unset]) rfl ?_
    show Steps p.tables e below (T1.setTop (mkF m 27 #[.val (.int p0), .val (.long p1), .second, .val (.long p2), .second, .val (.ref s_BUY), .val (.long ((((p0 >>> ((2 : Int32) &&& 31)) &&& (3 : Int32)) - (1 : Int32)).toInt64)), .second, .unset, .unset, .unset, .unset] [])) _
    refine XS.iloadN X1.here hx rfl (hb hby at_27) rfl ?_
    show Steps p.tables e below (T1.setTop (mkF m 28 #[.val (.int p0), .val (.long p1), .second, .val (.long p2), .second, .val (.ref s_BUY), .val (.long ((((p0 >>> ((2 : Int32) &&& 31)) &&& (3 : Int32)) - (1 : Int32)).toInt64)), .second, .unset, .unset, .unset, .unset] [(.int p0)])) _
    refine XS.iconst X1.here hx rfl (hb hby at_28) ?_
    show Steps p.tables e below (T1.setTop (mkF m 29 #[.val (.int p0), .val (.long p1), .second, .val (.long p2), .second, .val (.ref s_BUY), .val (.long ((((p0 >>> ((2 : Int32) &&& 31)) &&& (3 : Int32)) - (1 : Int32)).toInt64)), .second, .unset, .unset, .unset, .unset] [(.int (2 : Int32)), (.int p0)])) _
    refine XS.iand X1.here hx rfl (hb hby at_29) rfl ?_
    show Steps p.tables e below (T1.setTop (mkF m 30 #[.val (.int p0), .val (.long p1), .second, .val (.long p2), .second, .val (.ref s_BUY), .val (.long ((((p0 >>> ((2 : Int32) &&& 31)) &&& (3 : Int32)) - (1 : Int32)).toInt64)), .second, .unset, .unset, .unset, .unset] [(.int (p0 &&& (2 : Int32)))])) _
    rw [hb1]
    show Steps p.tables e below (T1.setTop (mkF m 30 #[.val (.int p0), .val (.long p1), .second, .val (.long p2), .second, .val (.ref s_BUY), .val (.long ((((p0 >>> ((2 : Int32) &&& 31)) &&& (3 : Int32)) - (1 : Int32)).toInt64)), .second, .unset, .unset, .unset, .unset] [(.int (2 : Int32))])) _
    refine XS.ifNo X1.here hx rfl (hb hby at_30) rfl (by decide +kernel) ?_
    show Steps p.tables e below (T1.setTop (mkF m 33 #[.val (.int p0), .val (.long p1), .second, .val (.long p2), .second, .val (.ref s_BUY), .val (.long ((((p0 >>> ((2 : Int32) &&& 31)) &&& (3 : Int32)) - (1 : Int32)).toInt64)), .second, .unset, .unset, .unset, .unset] [])) _
    refine XS.lloadN X1.here hx rfl (hb hby at_33) rfl ?_
    show Steps p.tables e below (T1.setTop (mkF m 34 #[.val (.int p0), .val (.long p1), .second, .val (.long p2), .second, .val (.ref s_BUY), .val (.long ((((p0 >>> ((2 : Int32) &&& 31)) &&& (3 : Int32)) - (1 : Int32)).toInt64)), .second, .unset, .unset, .unset, .unset] [(.long p1)])) _
    refine XS.lload X1.here hx rfl (hb hby at_34) rfl ?_
    show Steps p.tables e below (T1.setTop (mkF m 36 #[.val (.int p0), .val (.long p1), .second, .val (.long p2), .second, .val (.ref s_BUY), .val (.long ((((p0 >>> ((2 : Int32) &&& 31)) &&& (3 : Int32)) - (1 : Int32)).toInt64)), .second, .unset, .unset, .unset, .unset] [(.long ((((p0 >>> ((2 : Int32) &&& 31)) &&& (3 : Int32)) - (1 : Int32)).toInt64)), (.long p1)])) _
    refine XS.ladd X1.here hx rfl (hb hby at_36) rfl ?_
    show Steps p.tables e below (T1.setTop (mkF m 37 #[.val (.int p0), .val (.long p1), .second, .val (.long p2), .second, .val (.ref s_BUY), .val (.long ((((p0 >>> ((2 : Int32) &&& 31)) &&& (3 : Int32)) - (1 : Int32)).toInt64)), .second, .unset, .unset, .unset, .unset] [(.long (p1 + ((((p0 >>> ((2 : Int32) &&& 31)) &&& (3 : Int32)) - (1 : Int32)).toInt64)))])) _
    refine XS.goto X1.here hx rfl (pc0 := 37) (pc' := 41) rfl (hb hby at_37) (by decide) (by decide) ?_
    show Steps p.tables e below (T1.setTop (mkF m 41 #[.val (.int p0), .val (.long p1), .second, .val (.long p2), .second, .val (.ref s_BUY), .val (.long ((((p0 >>> ((2 : Int32) &&& 31)) &&& (3 : Int32)) - (1 : Int32)).toInt64)), .second, .unset, .unset, .unset, .unset] [(.long (p1 + ((((p0 >>> ((2 : Int32) &&& 31)) &&& (3 : Int32)) - (1 : Int32)).toInt64)))])) _
    refine XS.lstore X1.here hx rfl (hb hby at_41) rfl (l' := #[.val (.int p0), .val (.long p1), .second, .val (.long p2), .second, .val (.ref s_BUY), .val (.long ((((p0 >>> ((2 : Int32) &&& 31)) &&& (3 : Int32)) - (1 : Int32)).toInt64)), .second, .val (.long (p1 + ((((p0 >>> ((2 : Int32) &&& 31)) &&& (3 : Int32)) - (1 : Int32)).toInt64))), .second, .unset, .unset]) rfl ?_
    show Steps p.tables e below (T1.setTop (mkF m 43 #[.val (.int p0), .val (.long p1), .second, .val (.long p2), .second, .val (.ref s_BUY), .val (.long ((((p0 >>> ((2 : Int32) &&& 31)) &&& (3 : Int32)) - (1 : Int32)).toInt64)), .second, .val (.long (p1 + ((((p0 >>> ((2 : Int32) &&& 31)) &&& (3 : Int32)) - (1 : Int32)).toInt64))), .second, .unset, .unset] [])) _
    refine XS.aload X1.here hx rfl (hb hby at_43) rfl rfl ?_
    show Steps p.tables e below (T1.setTop (mkF m 45 #[.val (.int p0), .val (.long p1), .second, .val (.long p2), .second, .val (.ref s_BUY), .val (.long ((((p0 >>> ((2 : Int32) &&& 31)) &&& (3 : Int32)) - (1 : Int32)).toInt64)), .second, .val (.long (p1 + ((((p0 >>> ((2 : Int32) &&& 31)) &&& (3 : Int32)) - (1 : Int32)).toInt64))), .second, .unset, .unset] [(.ref s_BUY)])) _
    refine XS.lloadN X1.here hx rfl (hb hby at_45) rfl ?_
    show Steps p.tables e below (T1.setTop (mkF m 46 #[.val (.int p0), .val (.long p1), .second, .val (.long p2), .second, .val (.ref s_BUY), .val (.long ((((p0 >>> ((2 : Int32) &&& 31)) &&& (3 : Int32)) - (1 : Int32)).toInt64)), .second, .val (.long (p1 + ((((p0 >>> ((2 : Int32) &&& 31)) &&& (3 : Int32)) - (1 : Int32)).toInt64))), .second, .unset, .unset] [(.long p1), (.ref s_BUY)])) _
    refine XS.lload X1.here hx rfl (hb hby at_46) rfl ?_
    show Steps p.tables e below (T1.setTop (mkF m 48 #[.val (.int p0), .val (.long p1), .second, .val (.long p2), .second, .val (.ref s_BUY), .val (.long ((((p0 >>> ((2 : Int32) &&& 31)) &&& (3 : Int32)) - (1 : Int32)).toInt64)), .second, .val (.long (p1 + ((((p0 >>> ((2 : Int32) &&& 31)) &&& (3 : Int32)) - (1 : Int32)).toInt64))), .second, .unset, .unset] [(.long (p1 + ((((p0 >>> ((2 : Int32) &&& 31)) &&& (3 : Int32)) - (1 : Int32)).toInt64))), (.long p1), (.ref s_BUY)])) _
    refine st2.trans ?_
    show Steps p.tables e below (T2.setTop (mkF m 51 #[.val (.int p0), .val (.long p1), .second, .val (.long p2), .second, .val (.ref s_BUY), .val (.long ((((p0 >>> ((2 : Int32) &&& 31)) &&& (3 : Int32)) - (1 : Int32)).toInt64)), .second, .val (.long (p1 + ((((p0 >>> ((2 : Int32) &&& 31)) &&& (3 : Int32)) - (1 : Int32)).toInt64))), .second, .unset, .unset] [(.int (0 : Int32))])) _
    refine XS.istore X2.here hx rfl (hb hby at_51) rfl (l' := #[.val (.int p0), .val (.long p1), .second, .val (.long p2), .second, .val (.ref s_BUY), .val (.long ((((p0 >>> ((2 : Int32) &&& 31)) &&& (3 : Int32)) - (1 : Int32)).toInt64)), .second, .val (.long (p1 + ((((p0 >>> ((2 : Int32) &&& 31)) &&& (3 : Int32)) - (1 : Int32)).toInt64))), .second, .val (.int (0 : Int32)), .unset]) rfl ?_
    show Steps p.tables e below (T2.setTop (mkF m 53 #[.val (.int p0), .val (.long p1), .second, .val (.long p2), .second, .val (.ref s_BUY), .val (.long ((((p0 >>> ((2 : Int32) &&& 31)) &&& (3 : Int32)) - (1 : Int32)).toInt64)), .second, .val (.long (p1 + ((((p0 >>> ((2 : Int32) &&& 31)) &&& (3 : Int32)) - (1 : Int32)).toInt64))), .second, .val (.int (0 : Int32)), .unset] [])) _
    refine XS.aload X2.here hx rfl (hb hby at_53) rfl rfl ?_
    show Steps p.tables e below (T2.setTop (mkF m 55 #[.val (.int p0), .val (.long p1), .second, .val (.long p2), .second, .val (.ref s_BUY), .val (.long ((((p0 >>> ((2 : Int32) &&& 31)) &&& (3 : Int32)) - (1 : Int32)).toInt64)), .second, .val (.long (p1 + ((((p0 >>> ((2 : Int32) &&& 31)) &&& (3 : Int32)) - (1 : Int32)).toInt64))), .second, .val (.int (0 : Int32)), .unset] [(.ref s_BUY)])) _
    refine st3 _ ?_
    show Steps p.tables e below (T3.setTop (mkF m 58 #[.val (.int p0), .val (.long p1), .second, .val (.long p2), .second, .val (.ref s_BUY), .val (.long ((((p0 >>> ((2 : Int32) &&& 31)) &&& (3 : Int32)) - (1 : Int32)).toInt64)), .second, .val (.long (p1 + ((((p0 >>> ((2 : Int32) &&& 31)) &&& (3 : Int32)) - (1 : Int32)).toInt64))), .second, .val (.int (0 : Int32)), .unset] [(.ref s_BUY), (.ref s_BUY)])) _
    refine Jvm.RoadKit.acmp (g := (mkF m 58 #[.val (.int p0), .val (.long p1), .second, .val (.long p2), .second, .val (.ref s_BUY), .val (.long ((((p0 >>> ((2 : Int32) &&& 31)) &&& (3 : Int32)) - (1 : Int32)).toInt64)), .second, .val (.long (p1 + ((((p0 >>> ((2 : Int32) &&& 31)) &&& (3 : Int32)) - (1 : Int32)).toInt64))), .second, .val (.int (0 : Int32)), .unset] [(.ref s_BUY), (.ref s_BUY)])) X3 hx rfl rfl rfl (pc0 := 58) (pc' := 61) (same := true) rfl (hb hby at_58) rfl (decide_eq_true rfl) (by decide) (by decide) ?_
    show Steps p.tables e below (T3.setTop (mkF m 61 #[.val (.int p0), .val (.long p1), .second, .val (.long p2), .second, .val (.ref s_BUY), .val (.long ((((p0 >>> ((2 : Int32) &&& 31)) &&& (3 : Int32)) - (1 : Int32)).toInt64)), .second, .val (.long (p1 + ((((p0 >>> ((2 : Int32) &&& 31)) &&& (3 : Int32)) - (1 : Int32)).toInt64))), .second, .val (.int (0 : Int32)), .unset] [])) _
    refine XS.lloadN X3.here hx rfl (hb hby at_61) rfl ?_
    show Steps p.tables e below (T3.setTop (mkF m 62 #[.val (.int p0), .val (.long p1), .second, .val (.long p2), .second, .val (.ref s_BUY), .val (.long ((((p0 >>> ((2 : Int32) &&& 31)) &&& (3 : Int32)) - (1 : Int32)).toInt64)), .second, .val (.long (p1 + ((((p0 >>> ((2 : Int32) &&& 31)) &&& (3 : Int32)) - (1 : Int32)).toInt64))), .second, .val (.int (0 : Int32)), .unset] [(.long p1)])) _
    refine XS.lload X3.here hx rfl (hb hby at_62) rfl ?_
    show Steps p.tables e below (T3.setTop (mkF m 64 #[.val (.int p0), .val (.long p1), .second, .val (.long p2), .second, .val (.ref s_BUY), .val (.long ((((p0 >>> ((2 : Int32) &&& 31)) &&& (3 : Int32)) - (1 : Int32)).toInt64)), .second, .val (.long (p1 + ((((p0 >>> ((2 : Int32) &&& 31)) &&& (3 : Int32)) - (1 : Int32)).toInt64))), .second, .val (.int (0 : Int32)), .unset] [(.long (p1 + ((((p0 >>> ((2 : Int32) &&& 31)) &&& (3 : Int32)) - (1 : Int32)).toInt64))), (.long p1)])) _
    refine st4 _ ?_
    show Steps p.tables e below (T4.setTop (mkF m 67 #[.val (.int p0), .val (.long p1), .second, .val (.long p2), .second, .val (.ref s_BUY), .val (.long ((((p0 >>> ((2 : Int32) &&& 31)) &&& (3 : Int32)) - (1 : Int32)).toInt64)), .second, .val (.long (p1 + ((((p0 >>> ((2 : Int32) &&& 31)) &&& (3 : Int32)) - (1 : Int32)).toInt64))), .second, .val (.int (0 : Int32)), .unset] [(.long (p1 + ((((p0 >>> ((2 : Int32) &&& 31)) &&& (3 : Int32)) - (1 : Int32)).toInt64)))])) _
    refine XS.lloadN X4.here hx rfl (hb hby at_67) rfl ?_
    show Steps p.tables e below (T4.setTop (mkF m 68 #[.val (.int p0), .val (.long p1), .second, .val (.long p2), .second, .val (.ref s_BUY), .val (.long ((((p0 >>> ((2 : Int32) &&& 31)) &&& (3 : Int32)) - (1 : Int32)).toInt64)), .second, .val (.long (p1 + ((((p0 >>> ((2 : Int32) &&& 31)) &&& (3 : Int32)) - (1 : Int32)).toInt64))), .second, .val (.int (0 : Int32)), .unset] [(.long p1), (.long (p1 + ((((p0 >>> ((2 : Int32) &&& 31)) &&& (3 : Int32)) - (1 : Int32)).toInt64)))])) _
    refine XS.lcmp X4.here hx rfl (hb hby at_68) rfl ?_
    show Steps p.tables e below (T4.setTop (mkF m 69 #[.val (.int p0), .val (.long p1), .second, .val (.long p2), .second, .val (.ref s_BUY), .val (.long ((((p0 >>> ((2 : Int32) &&& 31)) &&& (3 : Int32)) - (1 : Int32)).toInt64)), .second, .val (.long (p1 + ((((p0 >>> ((2 : Int32) &&& 31)) &&& (3 : Int32)) - (1 : Int32)).toInt64))), .second, .val (.int (0 : Int32)), .unset] [(.int (lcmpW (p1 + ((((p0 >>> ((2 : Int32) &&& 31)) &&& (3 : Int32)) - (1 : Int32)).toInt64)) p1))])) _
    rw [own_lc_gt hc]
    show Steps p.tables e below (T4.setTop (mkF m 69 #[.val (.int p0), .val (.long p1), .second, .val (.long p2), .second, .val (.ref s_BUY), .val (.long ((((p0 >>> ((2 : Int32) &&& 31)) &&& (3 : Int32)) - (1 : Int32)).toInt64)), .second, .val (.long (p1 + ((((p0 >>> ((2 : Int32) &&& 31)) &&& (3 : Int32)) - (1 : Int32)).toInt64))), .second, .val (.int (0 : Int32)), .unset] [(.int (1 : Int32))])) _
    refine XS.ifYes X4.here hx rfl (pc0 := 69) (pc' := 76) rfl (hb hby at_69) rfl (by decide +kernel) (by decide) (by decide) ?_
    show Steps p.tables e below (T4.setTop (mkF m 76 #[.val (.int p0), .val (.long p1), .second, .val (.long p2), .second, .val (.ref s_BUY), .val (.long ((((p0 >>> ((2 : Int32) &&& 31)) &&& (3 : Int32)) - (1 : Int32)).toInt64)), .second, .val (.long (p1 + ((((p0 >>> ((2 : Int32) &&& 31)) &&& (3 : Int32)) - (1 : Int32)).toInt64))), .second, .val (.int (0 : Int32)), .unset] [])) _
    refine XS.iconst X4.here hx rfl (hb hby at_76) ?_
    show Steps p.tables e below (T4.setTop (mkF m 77 #[.val (.int p0), .val (.long p1), .second, .val (.long p2), .second, .val (.ref s_BUY), .val (.long ((((p0 >>> ((2 : Int32) &&& 31)) &&& (3 : Int32)) - (1 : Int32)).toInt64)), .second, .val (.long (p1 + ((((p0 >>> ((2 : Int32) &&& 31)) &&& (3 : Int32)) - (1 : Int32)).toInt64))), .second, .val (.int (0 : Int32)), .unset] [(.int (0 : Int32))])) _
    refine XS.istore X4.here hx rfl (hb hby at_77) rfl (l' := #[.val (.int p0), .val (.long p1), .second, .val (.long p2), .second, .val (.ref s_BUY), .val (.long ((((p0 >>> ((2 : Int32) &&& 31)) &&& (3 : Int32)) - (1 : Int32)).toInt64)), .second, .val (.long (p1 + ((((p0 >>> ((2 : Int32) &&& 31)) &&& (3 : Int32)) - (1 : Int32)).toInt64))), .second, .val (.int (0 : Int32)), .val (.int (0 : Int32))]) rfl ?_
    show Steps p.tables e below (T4.setTop (mkF m 79 #[.val (.int p0), .val (.long p1), .second, .val (.long p2), .second, .val (.ref s_BUY), .val (.long ((((p0 >>> ((2 : Int32) &&& 31)) &&& (3 : Int32)) - (1 : Int32)).toInt64)), .second, .val (.long (p1 + ((((p0 >>> ((2 : Int32) &&& 31)) &&& (3 : Int32)) - (1 : Int32)).toInt64))), .second, .val (.int (0 : Int32)), .val (.int (0 : Int32))] [])) _
    refine XS.goto X4.here hx rfl (pc0 := 79) (pc' := 100) rfl (hb hby at_79) (by decide) (by decide) ?_
    show Steps p.tables e below (T4.setTop (mkF m 100 #[.val (.int p0), .val (.long p1), .second, .val (.long p2), .second, .val (.ref s_BUY), .val (.long ((((p0 >>> ((2 : Int32) &&& 31)) &&& (3 : Int32)) - (1 : Int32)).toInt64)), .second, .val (.long (p1 + ((((p0 >>> ((2 : Int32) &&& 31)) &&& (3 : Int32)) - (1 : Int32)).toInt64))), .second, .val (.int (0 : Int32)), .val (.int (0 : Int32))] [])) _
    refine XS.iload X4.here hx rfl (hb hby at_100) rfl ?_
    show Steps p.tables e below (T4.setTop (mkF m 102 #[.val (.int p0), .val (.long p1), .second, .val (.long p2), .second, .val (.ref s_BUY), .val (.long ((((p0 >>> ((2 : Int32) &&& 31)) &&& (3 : Int32)) - (1 : Int32)).toInt64)), .second, .val (.long (p1 + ((((p0 >>> ((2 : Int32) &&& 31)) &&& (3 : Int32)) - (1 : Int32)).toInt64))), .second, .val (.int (0 : Int32)), .val (.int (0 : Int32))] [(.int (0 : Int32))])) _
    refine XS.iload X4.here hx rfl (hb hby at_102) rfl ?_
    show Steps p.tables e below (T4.setTop (mkF m 104 #[.val (.int p0), .val (.long p1), .second, .val (.long p2), .second, .val (.ref s_BUY), .val (.long ((((p0 >>> ((2 : Int32) &&& 31)) &&& (3 : Int32)) - (1 : Int32)).toInt64)), .second, .val (.long (p1 + ((((p0 >>> ((2 : Int32) &&& 31)) &&& (3 : Int32)) - (1 : Int32)).toInt64))), .second, .val (.int (0 : Int32)), .val (.int (0 : Int32))] [(.int (0 : Int32)), (.int (0 : Int32))])) _
    refine XS.icmpNo X4.here hx rfl (hb hby at_104) rfl (by decide +kernel) ?_
    show Steps p.tables e below (T4.setTop (mkF m 107 #[.val (.int p0), .val (.long p1), .second, .val (.long p2), .second, .val (.ref s_BUY), .val (.long ((((p0 >>> ((2 : Int32) &&& 31)) &&& (3 : Int32)) - (1 : Int32)).toInt64)), .second, .val (.long (p1 + ((((p0 >>> ((2 : Int32) &&& 31)) &&& (3 : Int32)) - (1 : Int32)).toInt64))), .second, .val (.int (0 : Int32)), .val (.int (0 : Int32))] [])) _
    refine XS.iconst X4.here hx rfl (hb hby at_107) ?_
    show Steps p.tables e below (T4.setTop (mkF m 108 #[.val (.int p0), .val (.long p1), .second, .val (.long p2), .second, .val (.ref s_BUY), .val (.long ((((p0 >>> ((2 : Int32) &&& 31)) &&& (3 : Int32)) - (1 : Int32)).toInt64)), .second, .val (.long (p1 + ((((p0 >>> ((2 : Int32) &&& 31)) &&& (3 : Int32)) - (1 : Int32)).toInt64))), .second, .val (.int (0 : Int32)), .val (.int (0 : Int32))] [(.int (1 : Int32))])) _
    refine XS.goto X4.here hx rfl (pc0 := 108) (pc' := 112) rfl (hb hby at_108) (by decide) (by decide) ?_
    show Steps p.tables e below (T4.setTop (mkF m 112 #[.val (.int p0), .val (.long p1), .second, .val (.long p2), .second, .val (.ref s_BUY), .val (.long ((((p0 >>> ((2 : Int32) &&& 31)) &&& (3 : Int32)) - (1 : Int32)).toInt64)), .second, .val (.long (p1 + ((((p0 >>> ((2 : Int32) &&& 31)) &&& (3 : Int32)) - (1 : Int32)).toInt64))), .second, .val (.int (0 : Int32)), .val (.int (0 : Int32))] [(.int (1 : Int32))])) _
    exact retN X4 hx (t := .boolean) Bd.returns (by simp) (hb hby at_112) hr
  · exact ⟨rfl, N4, e4⟩
theorem rm0 (l : Launch) (Z : State) (a0 : Array Value) (hw : ∀ d ∈ tables_1, d.before a0 Z = true) (ws : List Jvm.Cond) (h0 : Heap) (n0 : Nat) (s_SELL : Addr) (s_BUY : Addr) (K : Ctx Z h0 s_SELL s_BUY) (p0 : Int32) (p1 : Int64) (p2 : Int64) :
    MetFree l x (head1 (Jvm.Cond.code x code maxLocals ret :: ws) room_1) (fun a U => a = #[(.int p0), (.long p1), (.long p2)] ∧ Z.Warmed39 U.vm ∧ U.heap = h0) (fun _ _ _ _ _ => True) (fun _ U o U' => ∃ v L, o = .returned v ∧ QV (.int (1 : Int32)) h0 n0 v U'.heap L ∧ FrameEnd U o U' L room_1.cells room_1.slots) := by
  rcases own_and2 p0 with ha | ha
  · rcases own_two p0 with hb1 | hb1
    · rcases own_tri p2 p1 with hc | hc | hc
      · exact law_k0_0_lt l Z a0 hw ws h0 n0 s_SELL s_BUY K p0 p1 p2 ha hb1 hc
      · exact law_k0_0_eq l Z a0 hw ws h0 n0 s_SELL s_BUY K p0 p1 p2 ha hb1 hc
      · exact law_k0_0_gt l Z a0 hw ws h0 n0 s_SELL s_BUY K p0 p1 p2 ha hb1 hc
    · rcases own_tri (p1 + ((((p0 >>> ((2 : Int32) &&& 31)) &&& (3 : Int32)) - (1 : Int32)).toInt64)) p1 with hc | hc | hc
      · exact law_k0_2_lt l Z a0 hw ws h0 n0 s_SELL s_BUY K p0 p1 p2 ha hb1 hc
      · exact law_k0_2_eq l Z a0 hw ws h0 n0 s_SELL s_BUY K p0 p1 p2 ha hb1 hc
      · exact law_k0_2_gt l Z a0 hw ws h0 n0 s_SELL s_BUY K p0 p1 p2 ha hb1 hc
  · rcases own_two p0 with hb1 | hb1
    · rcases own_tri p2 p1 with hc | hc | hc
      · exact law_k1_0_lt l Z a0 hw ws h0 n0 s_SELL s_BUY K p0 p1 p2 ha hb1 hc
      · exact law_k1_0_eq l Z a0 hw ws h0 n0 s_SELL s_BUY K p0 p1 p2 ha hb1 hc
      · exact law_k1_0_gt l Z a0 hw ws h0 n0 s_SELL s_BUY K p0 p1 p2 ha hb1 hc
    · rcases own_tri (p1 + ((((p0 >>> ((2 : Int32) &&& 31)) &&& (3 : Int32)) - (1 : Int32)).toInt64)) p1 with hc | hc | hc
      · exact law_k1_2_lt l Z a0 hw ws h0 n0 s_SELL s_BUY K p0 p1 p2 ha hb1 hc
      · exact law_k1_2_eq l Z a0 hw ws h0 n0 s_SELL s_BUY K p0 p1 p2 ha hb1 hc
      · exact law_k1_2_gt l Z a0 hw ws h0 n0 s_SELL s_BUY K p0 p1 p2 ha hb1 hc

set_option maxRecDepth 65536 in
set_option maxHeartbeats 40000000 in
theorem comes_1 {Post : Tables → Env → Array Value → State → Outcome → State → Prop} (hpost : ∀ tb e args s v u, (limb_1_1.after args s (.returned v) u = true ∧ limb_1_2.after args s (.returned v) u = true ∧ True) → FrameEnd s (.returned v) u (Jvm.fieldLocs frame_1_writes args s ++ Jvm.arrayLocs frame_1_arrays args s ++ Jvm.staticLocs frame_1_statics s) 0 0 → Post tb e args s (.returned v) u) :
    ArmFor flags0 classFile x code maxLocals ret World_1 tables_1 room_1 Calls_1 rest_1 Pre_1 Post := by
  intro l hfl _ _ p e ha hc hk s m args below hf hA hF happ hP
  obtain ⟨hcalls, hrest, hpre⟩ := hP
  obtain ⟨-, -, -, hnamed, -, -, -, hat⟩ := (Spec.applies_iff hf).mp happ
  obtain ⟨hg, hn⟩ := and_e (Cond.before_iff.mp (show (Jvm.Cond.and given_1 narrow_1).before args s = true from hpre))
  obtain ⟨g0, gr0⟩ := and_e hg
  obtain ⟨ga0, gr1⟩ := and_e gr0
  obtain ⟨ga1, gr2⟩ := and_e gr1
  have ga2 := gr2
  obtain ⟨w0, w1, w2, rfl⟩ : ∃ w0 w1 w2 : Value, args = #[w0, w1, w2] := by
    have hs : args.size = 3 := by simpa [Cond.value, given_1] using g0
    obtain ⟨L⟩ := args
    match L, hs with
    | [w0, w1, w2], _ => exact ⟨w0, w1, w2, rfl⟩
  have hw := fun d (hd : d ∈ tables_1) => atoms_spec (ws := Jvm.Cond.code x code maxLocals ret :: tables_1) hat d (List.mem_cons_of_mem _ hd)
  obtain ⟨p0, ei0⟩ := is_v ga0
  obtain rfl : w0 = (.int p0) := Option.some.inj ei0
  obtain ⟨p1, ei1⟩ := isL_v ga1
  obtain rfl : w1 = (.long p1) := Option.some.inj ei1
  obtain ⟨p2, ei2⟩ := isL_v ga2
  obtain rfl : w2 = (.long p2) := Option.some.inj ei2
  obtain ⟨hnl, hnr⟩ := and_e hn
  have n0 := hnl
  obtain ⟨hnrl, hnrr⟩ := and_e hnr
  have n1 := hnrl
  obtain ⟨hnrrl, hnrrr⟩ := and_e hnrr
  have n2 := hnrrl
  have n3 := hnrrr
  obtain ⟨s_SELL, ev_SELL⟩ := exa_v n0
  have E_SELL := Exa.start ev_SELL n0
  have S_SELL := Sta.start ev_SELL (Or.inr ⟨(hw _ (List.mem_of_getElem? (i := 1) rfl)), (hw _ (List.mem_of_getElem? (i := 2) rfl))⟩)
  obtain ⟨s_BUY, ev_BUY⟩ := exa_v n1
  have E_BUY := Exa.start ev_BUY n1
  have S_BUY := Sta.start ev_BUY (Or.inr ⟨(hw _ (List.mem_of_getElem? (i := 1) rfl)), (hw _ (List.mem_of_getElem? (i := 9) rfl))⟩)
  have o_SELL_ordinal := (fld_at ev_SELL).symm.trans (own_eqI n2)
  have F_SELL_ordinal := Fld.start o_SELL_ordinal
  have o_BUY_ordinal := (fld_at ev_BUY).symm.trans (own_eqI n3)
  have F_BUY_ordinal := Fld.start o_BUY_ordinal
  have ne_BUY_SELL : s_BUY ≠ s_SELL := own_ne o_BUY_ordinal o_SELL_ordinal (by decide)
  obtain ⟨n, o, h1, h2, h3, _, L, rfl, ⟨rfl, N, _⟩, hq⟩ := rm0 l s _ hw tables_1 s.heap s.heap.size s_SELL s_BUY ⟨S_SELL, S_BUY, ne_BUY_SELL, E_SELL, E_BUY⟩ p0 p1 p2 p e ha hc hk s m _ below hf ((Spec.applies_iff_loose hf).mp happ).1 ⟨rfl, State.Warmed39.refl s, rfl⟩ trivial
  refine ⟨n, _, h1, h2, h3, hpost _ _ _ _ _ _ ⟨Cond.after_iff.mpr rfl, Cond.after_iff.mpr (eq_i res_at (Term.int_eval (1)) rfl), trivial⟩ ⟨hq.1, hq.2.1, (hq.2.2.sift fun y hy => Or.inr (N y hy)).mono (by decide) (by decide)⟩⟩
theorem main_1_1 : Claimed_1_1 := comes_1 fun _ _ _ _ _ _ h hF => ⟨h.1, hF⟩
theorem main_1_2 : Claimed_1_2 := comes_1 fun _ _ _ _ _ _ h hF => ⟨h.2.1, hF⟩
end Jvm.Pilot.@@N@@
namespace Jvm.Pilot.@@N@@
open Jvm Jvm.ClassFile Sem Op Lib Jvm.Free Jvm.Stand Jvm.Pilot.@@N@@.Jvm.D
/-! MADE BY PROGRAM (witnessworld.py) out of the Statement's table words and the real class files: 13 classes; the members and pool entries that the words name. The judged class is class 1, her method 1. -/
namespace start1
open Jvm.ClassFile
def u (s : String) : CpInfo := .utf8 (stringToUtf16 s)
/-- a pool by its gaps: so many unusable entries, then the entry; so many at the end -/
def gap : Nat → List CpInfo → List CpInfo
  | 0, r => r
  | n + 1, r => .unusable :: gap n r
def poolList (es : List (Nat × CpInfo)) (last : Nat) : List CpInfo := es.foldr (fun e r => gap e.1 (e.2 :: r)) (gap last [])
def pool (es : List (Nat × CpInfo)) (last : Nat) : Array CpInfo := ⟨poolList es last⟩
def fileOf (pool : Array CpInfo) (this : Nat) (attrs : Array Attribute := #[]) (ms : Array MethodInfo := #[]) (fl : Nat := 33) (sup : Nat := 0) (ifs : Array Nat := #[]) (fds : Array FieldInfo := #[]) : ClassFile where
  minorVersion := 0
  majorVersion := 65
  constantPool := pool
  accessFlags := fl
  thisClass := this
  superClass := sup
  interfaces := ifs
  fields := fds
  methods := ms
  attributes := attrs
def plain (name : String) (sup : Option ClassId) : Class where
  name := name
  kind := .ordinary
  loader := none
  accessFlags := 33
  super := sup
  interfaces := #[]
  cf := none
  fields := #[]
  methods := #[]
  instanceTypes := #[]
  staticTypes := #[]
  resolved := #[]
  callSites := []
  init := .initialized
  statics := none
  mirror := none

def pool0 : Array CpInfo := pool [(5, u "<init>"), (0, u "()V"), (1, .class_ 10), (1, u "java/lang/Object")] 113

def k0m0 : Method := { name := "<init>", desc := "()V", sig := { parameters := [], returnType := none }, accessFlags := 1, code := none }
/-- java/lang/Object -/
def k0 : Class := { plain "java/lang/Object" none with
  accessFlags := 33
  interfaces := #[]
  cf := some (fileOf pool0 8 #[] #[{ accessFlags := 1, nameIndex := 5, descriptorIndex := 6, attributes := #[] }] 33 0 #[] #[])
  fields := #[]
  methods := #[k0m0]
  instanceTypes := #[]
  staticTypes := #[]
  resolved := Array.replicate 124 none
  statics := none }

def pool1 : Array CpInfo := pool [(2, .class_ 4), (1, u "java/lang/Object"), (0, u "<init>"), (0, u "()V"), (0, .fieldref 8 9), (0, .class_ 10), (0, .nameAndType 11 12), (0, u "com/example/bookfence/bookfence/engine/Side"), (0, u "BUY"), (0, u "Lcom/example/bookfence/bookfence/engine/Side;"), (0, .fieldref 8 14), (0, .nameAndType 15 12), (0, u "SELL"), (0, .methodref 8 17), (0, .nameAndType 18 19), (0, u "allows"), (0, u "(JJ)Z"), (0, .methodref 21 22), (0, .class_ 23), (0, .nameAndType 24 25), (0, u "java/lang/Math"), (0, u "max"), (0, u "(JJ)J"), (0, .methodref 21 27), (0, .nameAndType 28 25), (0, u "min"), (0, .class_ 30), (0, u "com/example/bookfence/bookfence/engine/SideAllowsPinLaw"), (2, u "law"), (0, u "(IJJ)Z")] 3

def k1m0 : Method := { name := "<init>", desc := "()V", sig := { parameters := [], returnType := none }, accessFlags := 1, code := none }
def k1c1 : Code := { maxStack := 5, maxLocals := 12, code := code, exceptionTable := #[], attributes := #[] }
def k1m1 : Method := { name := "law", desc := "(IJJ)Z", sig := { parameters := [.int, .long, .long], returnType := some .boolean }, accessFlags := 9, code := some k1c1 }
/-- com/example/bookfence/bookfence/engine/SideAllowsPinLaw -/
def k1 : Class := { plain "com/example/bookfence/bookfence/engine/SideAllowsPinLaw" (some 0) with
  accessFlags := 49
  interfaces := #[]
  cf := some (fileOf pool1 29 #[] #[{ accessFlags := 1, nameIndex := 5, descriptorIndex := 6, attributes := #[] }, { accessFlags := 9, nameIndex := 33, descriptorIndex := 34, attributes := #[] }] 49 2 #[] #[])
  fields := #[]
  methods := #[k1m0, k1m1]
  instanceTypes := #[]
  staticTypes := #[]
  resolved := Array.replicate 38 none
  statics := none }

def pool2 : Array CpInfo := pool [(1, .class_ 2), (0, u "java/lang/constant/Constable"), (0, .class_ 4), (0, u "java/lang/Object")] 6

/-- java/lang/constant/Constable -/
def k2 : Class := { plain "java/lang/constant/Constable" (some 0) with
  accessFlags := 1537
  interfaces := #[]
  cf := some (fileOf pool2 1 #[] #[] 1537 3 #[] #[])
  fields := #[]
  methods := #[]
  instanceTypes := #[]
  staticTypes := #[]
  resolved := Array.replicate 11 none
  statics := none }

def pool3 : Array CpInfo := pool [(1, .class_ 2), (0, u "java/lang/Comparable"), (0, .class_ 4), (0, u "java/lang/Object")] 7

/-- java/lang/Comparable -/
def k3 : Class := { plain "java/lang/Comparable" (some 0) with
  accessFlags := 1537
  interfaces := #[]
  cf := some (fileOf pool3 1 #[] #[] 1537 3 #[] #[])
  fields := #[]
  methods := #[]
  instanceTypes := #[]
  staticTypes := #[]
  resolved := Array.replicate 12 none
  statics := none }

def pool4 : Array CpInfo := pool [(1, .class_ 2), (0, u "java/io/Serializable"), (0, .class_ 4), (0, u "java/lang/Object")] 2

/-- java/io/Serializable -/
def k4 : Class := { plain "java/io/Serializable" (some 0) with
  accessFlags := 1537
  interfaces := #[]
  cf := some (fileOf pool4 1 #[] #[] 1537 3 #[] #[])
  fields := #[]
  methods := #[]
  instanceTypes := #[]
  staticTypes := #[]
  resolved := Array.replicate 7 none
  statics := none }

def pool5 : Array CpInfo := pool [(2, .class_ 4), (1, u "java/lang/Enum"), (0, u "name"), (0, u "Ljava/lang/String;"), (2, u "ordinal"), (0, u "I"), (1, .class_ 14), (1, u "java/lang/Object"), (4, u "hash"), (86, .class_ 108), (1, u "java/lang/Enum$EnumDesc"), (2, .class_ 112), (0, u "java/lang/constant/Constable"), (0, .class_ 114), (0, u "java/lang/Comparable"), (0, .class_ 116), (0, u "java/io/Serializable")] 87

/-- java/lang/Enum -/
def k5 : Class := { plain "java/lang/Enum" (some 0) with
  accessFlags := 1057
  interfaces := #[2, 3, 4]
  cf := some (fileOf pool5 2 #[.nestMembers #[106]] #[] 1057 12 #[111, 113, 115] #[{ accessFlags := 18, nameIndex := 5, descriptorIndex := 6, attributes := #[] }, { accessFlags := 18, nameIndex := 9, descriptorIndex := 10, attributes := #[] }, { accessFlags := 2, nameIndex := 19, descriptorIndex := 10, attributes := #[] }])
  fields := #[{ name := "name", type := (.object "java/lang/String"), accessFlags := 18, slot := 0, constantValue := 0 }, { name := "ordinal", type := .int, accessFlags := 18, slot := 1, constantValue := 0 }, { name := "hash", type := .int, accessFlags := 2, slot := 2, constantValue := 0 }]
  methods := #[]
  instanceTypes := #[(.object "java/lang/String"), .int, .int]
  staticTypes := #[]
  resolved := Array.replicate 204 none
  statics := none }

def pool6 : Array CpInfo := pool [(1, .class_ 2), (0, u "com/example/bookfence/bookfence/engine/Side"), (0, .fieldref 1 4), (0, .nameAndType 5 6), (0, u "BUY"), (0, u "Lcom/example/bookfence/bookfence/engine/Side;"), (2, u "SELL"), (2, u "$VALUES"), (0, u "[Lcom/example/bookfence/bookfence/engine/Side;"), (6, .class_ 22), (1, u "java/lang/Enum"), (38, u "allows"), (0, u "(JJ)Z")] 8

def k6c0 : Code := { maxStack := 4, maxLocals := 5, code := prog_44_method_5_code, exceptionTable := #[], attributes := #[] }
def k6m0 : Method := { name := "allows", desc := "(JJ)Z", sig := { parameters := [.long, .long], returnType := some .boolean }, accessFlags := 0, code := some k6c0 }
/-- com/example/bookfence/bookfence/engine/Side -/
def k6 : Class := { plain "com/example/bookfence/bookfence/engine/Side" (some 5) with
  accessFlags := 16433
  interfaces := #[]
  cf := some (fileOf pool6 1 #[] #[{ accessFlags := 0, nameIndex := 61, descriptorIndex := 62, attributes := #[] }] 16433 20 #[] #[{ accessFlags := 16409, nameIndex := 5, descriptorIndex := 6, attributes := #[] }, { accessFlags := 16409, nameIndex := 9, descriptorIndex := 6, attributes := #[] }, { accessFlags := 4122, nameIndex := 12, descriptorIndex := 13, attributes := #[] }])
  fields := #[{ name := "BUY", type := (.object "com/example/bookfence/bookfence/engine/Side"), accessFlags := 16409, slot := 0, constantValue := 0 }, { name := "SELL", type := (.object "com/example/bookfence/bookfence/engine/Side"), accessFlags := 16409, slot := 1, constantValue := 0 }, { name := "$VALUES", type := (.array (.object "com/example/bookfence/bookfence/engine/Side")), accessFlags := 4122, slot := 2, constantValue := 0 }]
  methods := #[k6m0]
  instanceTypes := #[(.object "java/lang/String"), .int, .int]
  staticTypes := #[(.object "com/example/bookfence/bookfence/engine/Side"), (.object "com/example/bookfence/bookfence/engine/Side"), (.array (.object "com/example/bookfence/bookfence/engine/Side"))]
  resolved := Array.replicate 71 none
  statics := some 0 }

def pool7 : Array CpInfo := pool [(1, .class_ 2), (0, u "java/lang/Math"), (1, .class_ 6), (1, u "java/lang/Object"), (0, u "<init>"), (0, u "()V"), (89, .class_ 100), (1, u "java/lang/Math$RandomNumberGeneratorHolder"), (20, u "(JJ)J"), (50, u "negativeZeroFloatBits"), (0, u "J"), (2, u "negativeZeroDoubleBits"), (21, u "max"), (2, u "min"), (43, u "$assertionsDisabled"), (0, u "Z"), (91, u "twoToTheDoubleScaleDown"), (0, u "D"), (4, u "twoToTheDoubleScaleUp"), (9, u "E"), (3, u "PI"), (2, u "TAU"), (2, u "DEGREES_TO_RADIANS"), (0, u "RADIANS_TO_DEGREES")] 94

def k7m0 : Method := { name := "<init>", desc := "()V", sig := { parameters := [], returnType := none }, accessFlags := 2, code := none }
def k7c1 : Code := { maxStack := 4, maxLocals := 4, code := jdk_29_method_66_code, exceptionTable := #[], attributes := #[] }
def k7m1 : Method := { name := "max", desc := "(JJ)J", sig := { parameters := [.long, .long], returnType := some .long }, accessFlags := 9, code := some k7c1 }
def k7c2 : Code := { maxStack := 4, maxLocals := 4, code := jdk_29_method_70_code, exceptionTable := #[], attributes := #[] }
def k7m2 : Method := { name := "min", desc := "(JJ)J", sig := { parameters := [.long, .long], returnType := some .long }, accessFlags := 9, code := some k7c2 }
/-- java/lang/Math -/
def k7 : Class := { plain "java/lang/Math" (some 0) with
  accessFlags := 49
  interfaces := #[]
  cf := some (fileOf pool7 1 #[.nestMembers #[98]] #[{ accessFlags := 2, nameIndex := 7, descriptorIndex := 8, attributes := #[] }, { accessFlags := 9, nameIndex := 198, descriptorIndex := 121, attributes := #[] }, { accessFlags := 9, nameIndex := 201, descriptorIndex := 121, attributes := #[] }] 49 4 #[] #[{ accessFlags := 25, nameIndex := 354, descriptorIndex := 339, attributes := #[] }, { accessFlags := 25, nameIndex := 358, descriptorIndex := 339, attributes := #[] }, { accessFlags := 25, nameIndex := 361, descriptorIndex := 339, attributes := #[] }, { accessFlags := 26, nameIndex := 364, descriptorIndex := 339, attributes := #[] }, { accessFlags := 26, nameIndex := 365, descriptorIndex := 339, attributes := #[] }, { accessFlags := 26, nameIndex := 172, descriptorIndex := 173, attributes := #[] }, { accessFlags := 26, nameIndex := 176, descriptorIndex := 173, attributes := #[] }, { accessFlags := 8, nameIndex := 344, descriptorIndex := 339, attributes := #[] }, { accessFlags := 8, nameIndex := 338, descriptorIndex := 339, attributes := #[] }, { accessFlags := 4120, nameIndex := 245, descriptorIndex := 246, attributes := #[] }])
  fields := #[{ name := "E", type := .double, accessFlags := 25, slot := 0, constantValue := 0 }, { name := "PI", type := .double, accessFlags := 25, slot := 1, constantValue := 0 }, { name := "TAU", type := .double, accessFlags := 25, slot := 2, constantValue := 0 }, { name := "DEGREES_TO_RADIANS", type := .double, accessFlags := 26, slot := 3, constantValue := 0 }, { name := "RADIANS_TO_DEGREES", type := .double, accessFlags := 26, slot := 4, constantValue := 0 }, { name := "negativeZeroFloatBits", type := .long, accessFlags := 26, slot := 5, constantValue := 0 }, { name := "negativeZeroDoubleBits", type := .long, accessFlags := 26, slot := 6, constantValue := 0 }, { name := "twoToTheDoubleScaleUp", type := .double, accessFlags := 8, slot := 7, constantValue := 0 }, { name := "twoToTheDoubleScaleDown", type := .double, accessFlags := 8, slot := 8, constantValue := 0 }, { name := "$assertionsDisabled", type := .boolean, accessFlags := 4120, slot := 9, constantValue := 0 }]
  methods := #[k7m0, k7m1, k7m2]
  instanceTypes := #[]
  staticTypes := #[.double, .double, .double, .double, .double, .long, .long, .double, .double, .boolean]
  resolved := Array.replicate 460 none
  statics := none }

def pool8 : Array CpInfo := pool [(1, u "java/lang/Cloneable"), (0, .class_ 1), (0, u "java/lang/Object"), (0, .class_ 3)] 3

/-- java/lang/Cloneable -/
def k8 : Class := { plain "java/lang/Cloneable" (some 0) with
  accessFlags := 1537
  interfaces := #[]
  cf := some (fileOf pool8 2 #[] #[] 1537 4 #[] #[])
  fields := #[]
  methods := #[]
  instanceTypes := #[]
  staticTypes := #[]
  resolved := Array.replicate 8 none
  statics := none }

/-- the primitive byte -/
def k9 : Class := { plain "byte" none with kind := .primitive 'B', accessFlags := 0x411 }
/-- [B -/
def k10 : Class := { plain "[B" (some 0) with kind := .array 9 .byte, interfaces := #[8, 4], accessFlags := 1041 }

/-- the primitive int -/
def k11 : Class := { plain "int" none with kind := .primitive 'I', accessFlags := 0x411 }
/-- [I -/
def k12 : Class := { plain "[I" (some 0) with kind := .array 11 .int, interfaces := #[8, 4], accessFlags := 1041 }

def heap : Heap := #[{ cls := 6, slots := #[.ref 2, .ref 1, .null], vm := .statics 6 },
  { cls := 6, slots := #[.null, .int 1, .int 0], vm := .none },
  { cls := 6, slots := #[.null, .int 0, .int 0], vm := .none }]
def classes : Array Class := #[k0, k1, k2, k3, k4, k5, k6, k7, k8, k9, k10, k11, k12]
def interned : List (Array UInt16 × Addr) := []
def slotsUsed : Nat := 9
def theMethod : MethodId := ⟨1, 1⟩
def args0 : Array Value := #[.int 5, .long 3, .long 7]
def aboutOver (below : List Frame) : State where
  vm := { classes := classes, interned := interned.toArray }
  heap := heap
  slotsUsed := slotsUsed
  threads := #[{ frames := .invoking theMethod args0 :: below }]
def below0 : List Frame := [.native { method := ⟨0, 0⟩, args := #[] }]
def about1 : State := aboutOver below0
def p0 : Program := .bare "" "" ""
def e0 : Env := launch0.env 0 0 0
theorem w_frames : about1.frames = Frame.invoking theMethod args0 :: below0 := rfl
set_option maxRecDepth 65536 in
theorem w_args : argsFit about1.vm theMethod args0 = true := by decide +kernel
set_option maxRecDepth 65536 in
theorem w_heap : heapFits about1 = true := by decide +kernel
set_option maxRecDepth 65536 in
theorem w_runnable : about1.curStatus? = some .runnable := by decide +kernel
set_option maxRecDepth 65536 in
theorem w_alone : about1.alone = true := by decide +kernel
set_option maxRecDepth 65536 in
theorem w_named : about1.methodNamed? x = some theMethod := by decide +kernel
set_option maxRecDepth 65536 in
theorem w_hears : about1.hears theMethod below0 = true := by decide +kernel
set_option maxRecDepth 65536 in
theorem w_ripe : about1.ripe theMethod args0 below0 = true := by decide +kernel
theorem w_running : about1.status = .running := rfl
set_option maxRecDepth 65536 in
theorem w_room : about1.hasRoom e0.platform room_1 = true :=
  launch0.hasRoom_least _ room_1 (by decide +kernel) (by decide +kernel) (by decide +kernel) (by decide +kernel) (by decide +kernel) (by decide +kernel)
theorem allAtoms_all (ts : List Jvm.Cond) (a : Array Jvm.Value) (st : Jvm.State) : (allAtoms ts).before a st = ts.all (fun c => c.before a st) := by
  induction ts with
  | nil => rfl
  | cons c t ih =>
    show (Jvm.Cond.and c (allAtoms t)).before a st = _
    rw [Jvm.Cond.before_and, ih, List.all_cons]
def words1 : List Jvm.Cond := Jvm.Cond.code x code maxLocals ret :: tables_1
/-- a 'code' word, met by the world's own term for the bytes: nothing is compared byte by byte -/
theorem code_word {y : MethodName} {bytes : ByteArray} {mx : Nat} {rt : Option FieldType} {a : Array Value} {s : State} {m : MethodId} {meth : Method} {c : Code} (h1 : s.methodNamed? y = some m) (h2 : s.vm.method? m = some meth) (h3 : meth.code = some c) (h4 : c.code = bytes)
    (h5 : (c.maxLocals == mx && c.exceptionTable.isEmpty && decide (c.maxStack ≤ mostOperands) && decide (meth.sig.returnType = rt) && !meth.locks && decide (parseMethodDescriptor y.desc = some meth.sig)) = true) : (Jvm.Cond.code y bytes mx rt).before a s = true := by
  simp only [Bool.and_eq_true, beq_iff_eq, Bool.not_eq_true', decide_eq_true_eq] at h5
  obtain ⟨⟨⟨⟨⟨g1, g2⟩, g3⟩, g4⟩, g5⟩, g6⟩ := h5
  simp [Cond.before, Cond.holds, Cond.value, h1, h2, h3, h4, g1, g2, g3, g4, g5, g6]
def isCode : Jvm.Cond → Bool
  | .code _ _ _ _ => true
  | _ => false
theorem all_split {L : List Jvm.Cond} {P : Jvm.Cond → Bool} (h1 : L.all (fun c => isCode c || P c) = true) (h2 : ∀ c ∈ L.filter isCode, P c = true) : L.all P = true := by
  refine List.all_eq_true.mpr fun c hc => ?_
  have h := List.all_eq_true.mp h1 c hc
  rcases Bool.eq_false_or_eq_true (isCode c) with hi | hi
  · exact h2 c (List.mem_filter.mpr ⟨hc, hi⟩)
  · simpa [hi] using h
set_option maxRecDepth 65536 in
theorem w_c0 : (Jvm.Cond.code x code maxLocals ret).before args0 about1 = true := code_word (m := ⟨1, 1⟩) (meth := k1m1) (c := k1c1) (by decide +kernel) rfl rfl rfl (by decide +kernel)
set_option maxRecDepth 65536 in
theorem w_c1 : (Jvm.Cond.code ({ cls := "com/example/bookfence/bookfence/engine/Side", name := "allows", desc := "(JJ)Z" } : Jvm.MethodName) prog_44_method_5_code (5 : Nat) (Option.some Jvm.ClassFile.FieldType.boolean)).before args0 about1 = true := code_word (m := ⟨6, 0⟩) (meth := k6m0) (c := k6c0) (by decide +kernel) rfl rfl rfl (by decide +kernel)
set_option maxRecDepth 65536 in
theorem w_c2 : (Jvm.Cond.code ({ cls := "java/lang/Math", name := "min", desc := "(JJ)J" } : Jvm.MethodName) jdk_29_method_70_code (4 : Nat) (Option.some Jvm.ClassFile.FieldType.long)).before args0 about1 = true := code_word (m := ⟨7, 2⟩) (meth := k7m2) (c := k7c2) (by decide +kernel) rfl rfl rfl (by decide +kernel)
set_option maxRecDepth 65536 in
theorem w_c3 : (Jvm.Cond.code ({ cls := "java/lang/Math", name := "max", desc := "(JJ)J" } : Jvm.MethodName) jdk_29_method_66_code (4 : Nat) (Option.some Jvm.ClassFile.FieldType.long)).before args0 about1 = true := code_word (m := ⟨7, 1⟩) (meth := k7m1) (c := k7c1) (by decide +kernel) rfl rfl rfl (by decide +kernel)
def codes1 : List Jvm.Cond := [Jvm.Cond.code x code maxLocals ret, Jvm.Cond.code ({ cls := "com/example/bookfence/bookfence/engine/Side", name := "allows", desc := "(JJ)Z" } : Jvm.MethodName) prog_44_method_5_code (5 : Nat) (Option.some Jvm.ClassFile.FieldType.boolean), Jvm.Cond.code ({ cls := "java/lang/Math", name := "min", desc := "(JJ)J" } : Jvm.MethodName) jdk_29_method_70_code (4 : Nat) (Option.some Jvm.ClassFile.FieldType.long), Jvm.Cond.code ({ cls := "java/lang/Math", name := "max", desc := "(JJ)J" } : Jvm.MethodName) jdk_29_method_66_code (4 : Nat) (Option.some Jvm.ClassFile.FieldType.long)]
set_option maxRecDepth 65536 in
theorem codes_eq : words1.filter isCode = codes1 := rfl
theorem w_codes : ∀ c ∈ words1.filter isCode, c.before args0 about1 = true := by
  rw [codes_eq]
  intro c hc
  simp only [codes1, List.mem_cons, List.not_mem_nil, or_false] at hc
  rcases hc with rfl | rfl | rfl | rfl
  · exact w_c0
  · exact w_c1
  · exact w_c2
  · exact w_c3
set_option maxRecDepth 65536 in
theorem w_t1 : words1.all (fun c => isCode c || c.before args0 about1) = true := by decide +kernel
theorem w_tables : (allAtoms (Jvm.Cond.code x code maxLocals ret :: tables_1)).before args0 about1 = true := by
  rw [allAtoms_all]
  show words1.all (fun c => c.before args0 about1) = true
  refine all_split ?_ w_codes
  rw [w_t1]
set_option maxRecDepth 65536 in
theorem w_case : (Jvm.Cond.and given_1 narrow_1).before args0 about1 = true := by decide +kernel
theorem w_applies : (headSpec (Jvm.Cond.code x code maxLocals ret :: tables_1) room_1).applies x e0.platform about1 = true :=
  (Spec.applies_iff w_frames).mpr ⟨w_running, w_runnable, w_alone, w_named, w_hears, w_ripe, w_room, w_tables⟩
theorem atStart : AtStart classFile x code maxLocals ret World_1 tables_1 room_1 Calls_1 rest_1 Pre_1 launch0 p0 e0 about1 theMethod args0 below0 :=
  ⟨lists_1, trivial, launch0.admits_env _ _ _, launch0.least_env, fairChoices_fair.cas, fairChoices_fair.clock, w_frames, w_args, w_heap, w_applies, trivial, trivial, w_case⟩
end start1
theorem witness_1 : WitnessClaimed_1 := ⟨start1.p0, start1.e0, start1.about1, start1.theMethod, start1.args0, start1.below0, start1.atStart⟩
end Jvm.Pilot.@@N@@
