import JvmDerived
import JvmDerived.Pilot.@@N@@Statement
import JvmDerived.Pilot.@@N@@Code
set_option linter.unusedVariables false
set_option linter.unusedSimpArgs false
@@BLOCK:NumsL.lean.txt@@
namespace Jvm.Pilot.@@N@@
open Jvm Jvm.ClassFile Sem Op Lib Jvm.Free Jvm.Stand Jvm.LawKit Jvm.RoadKit Bundle Jvm.Pilot.@@N@@.Jvm.D
/-- a term that the case says equals an int is worth that int -/
theorem own_eqI {args : Array Value} {s : State} {t : Term} {k : Int32} (h : (Jvm.Cond.eq t (.int k)).value args s none s [] = some true) : t.eval args s none [] s = some (.int k) := by
  obtain ⟨u, y, e1, e2, k1, k2⟩ := cmp_v (Or.inl h)
  obtain rfl : y = .int k := (Option.some.inj ((Term.int_eval k).symm.trans e2)).symm
  obtain ⟨z, rfl⟩ : ∃ z, u = .int z := k2
  have q : z = k := gotT (Cond.eq_ints e1 (Term.int_eval k)) h
  rw [e1, q]
/-- a term that the case says equals one that is worth an object is worth that object -/
theorem own_eqR {args : Array Value} {s : State} {t t' : Term} {b : Addr} (h : (Jvm.Cond.eq t t').value args s none s [] = some true) (hb : t'.eval args s none [] s = some (.ref b)) : t.eval args s none [] s = some (.ref b) := by
  obtain ⟨u, y, e1, e2, k1, k2⟩ := cmp_v (Or.inl h)
  obtain rfl : y = .ref b := (Option.some.inj (hb.symm.trans e2)).symm
  have q : u = .ref b := gotT (eq_R e1 hb k2.2 rfl) h
  rw [e1, q]
/-- two objects whose fields hold unlike values are unlike -/
theorem own_ne {s : State} {a b : Addr} {C n d : String} {v w : Value} (h1 : s.fieldOf? a C n d = some v) (h2 : s.fieldOf? b C n d = some w) (q : v ≠ w) : a ≠ b := fun e => by
  subst e; exact q (Option.some.inj (h1.symm.trans h2))
theorem own_pos (p : Int32) : 0 ≤ (p &&& (2147483647 : Int32)).toInt := by
  rw [Jvm.Kit.i32_mask p 2147483647 (k := 31) (by decide) (by decide)]; omega
theorem own_mod_lo (p n : Int32) (h : 0 < n.toInt) : 0 ≤ ((p &&& (2147483647 : Int32)) % n).toInt := by
  rw [Jvm.Kit.i32_rem_nonneg (own_pos p)]; exact Int.emod_nonneg _ (by omega)
theorem own_mod_hi (p n : Int32) (h : 0 < n.toInt) (k : Int) (hk : n.toInt = k) : ((p &&& (2147483647 : Int32)) % n).toInt < k := by
  rw [Jvm.Kit.i32_rem_nonneg (own_pos p), ← hk]; exact Int.emod_lt_of_pos _ h
theorem own_lt19 (z : Int32) (h1 : 0 ≤ z.toInt) (h2 : z.toInt < 19) : z = (0 : Int32) ∨ z = (1 : Int32) ∨ z = (2 : Int32) ∨ z = (3 : Int32) ∨ z = (4 : Int32) ∨ z = (5 : Int32) ∨ z = (6 : Int32) ∨ z = (7 : Int32) ∨ z = (8 : Int32) ∨ z = (9 : Int32) ∨ z = (10 : Int32) ∨ z = (11 : Int32) ∨ z = (12 : Int32) ∨ z = (13 : Int32) ∨ z = (14 : Int32) ∨ z = (15 : Int32) ∨ z = (16 : Int32) ∨ z = (17 : Int32) ∨ z = (18 : Int32) := by
  have e0 : (0 : Int32).toInt = 0 := by decide +kernel
  have e1 : (1 : Int32).toInt = 1 := by decide +kernel
  have e2 : (2 : Int32).toInt = 2 := by decide +kernel
  have e3 : (3 : Int32).toInt = 3 := by decide +kernel
  have e4 : (4 : Int32).toInt = 4 := by decide +kernel
  have e5 : (5 : Int32).toInt = 5 := by decide +kernel
  have e6 : (6 : Int32).toInt = 6 := by decide +kernel
  have e7 : (7 : Int32).toInt = 7 := by decide +kernel
  have e8 : (8 : Int32).toInt = 8 := by decide +kernel
  have e9 : (9 : Int32).toInt = 9 := by decide +kernel
  have e10 : (10 : Int32).toInt = 10 := by decide +kernel
  have e11 : (11 : Int32).toInt = 11 := by decide +kernel
  have e12 : (12 : Int32).toInt = 12 := by decide +kernel
  have e13 : (13 : Int32).toInt = 13 := by decide +kernel
  have e14 : (14 : Int32).toInt = 14 := by decide +kernel
  have e15 : (15 : Int32).toInt = 15 := by decide +kernel
  have e16 : (16 : Int32).toInt = 16 := by decide +kernel
  have e17 : (17 : Int32).toInt = 17 := by decide +kernel
  have e18 : (18 : Int32).toInt = 18 := by decide +kernel
  simp only [← Int32.toInt_inj]
  omega
theorem own_mod19 (p : Int32) : ((p &&& (2147483647 : Int32)) % (19 : Int32)) = (0 : Int32) ∨ ((p &&& (2147483647 : Int32)) % (19 : Int32)) = (1 : Int32) ∨ ((p &&& (2147483647 : Int32)) % (19 : Int32)) = (2 : Int32) ∨ ((p &&& (2147483647 : Int32)) % (19 : Int32)) = (3 : Int32) ∨ ((p &&& (2147483647 : Int32)) % (19 : Int32)) = (4 : Int32) ∨ ((p &&& (2147483647 : Int32)) % (19 : Int32)) = (5 : Int32) ∨ ((p &&& (2147483647 : Int32)) % (19 : Int32)) = (6 : Int32) ∨ ((p &&& (2147483647 : Int32)) % (19 : Int32)) = (7 : Int32) ∨ ((p &&& (2147483647 : Int32)) % (19 : Int32)) = (8 : Int32) ∨ ((p &&& (2147483647 : Int32)) % (19 : Int32)) = (9 : Int32) ∨ ((p &&& (2147483647 : Int32)) % (19 : Int32)) = (10 : Int32) ∨ ((p &&& (2147483647 : Int32)) % (19 : Int32)) = (11 : Int32) ∨ ((p &&& (2147483647 : Int32)) % (19 : Int32)) = (12 : Int32) ∨ ((p &&& (2147483647 : Int32)) % (19 : Int32)) = (13 : Int32) ∨ ((p &&& (2147483647 : Int32)) % (19 : Int32)) = (14 : Int32) ∨ ((p &&& (2147483647 : Int32)) % (19 : Int32)) = (15 : Int32) ∨ ((p &&& (2147483647 : Int32)) % (19 : Int32)) = (16 : Int32) ∨ ((p &&& (2147483647 : Int32)) % (19 : Int32)) = (17 : Int32) ∨ ((p &&& (2147483647 : Int32)) % (19 : Int32)) = (18 : Int32) :=
  own_lt19 _ (own_mod_lo p 19 (by decide +kernel)) (own_mod_hi p 19 (by decide +kernel) 19 (by decide +kernel))

theorem d0_0 : decode method_2_code 0 = .ok (.iload_n 0, 1) := by decide +kernel
theorem d0_1 : decode method_2_code 1 = .ok (.ifCond .ne 7, 3) := by decide +kernel
theorem d0_4 : decode method_2_code 4 = .ok (.getstatic 7, 3) := by decide +kernel
theorem d0_7 : decode method_2_code 7 = .ok (.areturn, 1) := by decide +kernel
theorem d0_8 : decode method_2_code 8 = .ok (.iload_n 0, 1) := by decide +kernel
theorem d0_9 : decode method_2_code 9 = .ok (.iconst 1, 1) := by decide +kernel
theorem d0_10 : decode method_2_code 10 = .ok (.if_icmp .ne 7, 3) := by decide +kernel
theorem d0_13 : decode method_2_code 13 = .ok (.getstatic 13, 3) := by decide +kernel
theorem d0_16 : decode method_2_code 16 = .ok (.areturn, 1) := by decide +kernel
theorem d0_17 : decode method_2_code 17 = .ok (.iload_n 0, 1) := by decide +kernel
theorem d0_18 : decode method_2_code 18 = .ok (.iconst 2, 1) := by decide +kernel
theorem d0_19 : decode method_2_code 19 = .ok (.if_icmp .ne 7, 3) := by decide +kernel
theorem d0_22 : decode method_2_code 22 = .ok (.getstatic 16, 3) := by decide +kernel
theorem d0_25 : decode method_2_code 25 = .ok (.areturn, 1) := by decide +kernel
theorem d0_26 : decode method_2_code 26 = .ok (.iload_n 0, 1) := by decide +kernel
theorem d0_27 : decode method_2_code 27 = .ok (.iconst 3, 1) := by decide +kernel
theorem d0_28 : decode method_2_code 28 = .ok (.if_icmp .ne 7, 3) := by decide +kernel
theorem d0_31 : decode method_2_code 31 = .ok (.getstatic 19, 3) := by decide +kernel
theorem d0_34 : decode method_2_code 34 = .ok (.areturn, 1) := by decide +kernel
theorem d0_35 : decode method_2_code 35 = .ok (.iload_n 0, 1) := by decide +kernel
theorem d0_36 : decode method_2_code 36 = .ok (.iconst 4, 1) := by decide +kernel
theorem d0_37 : decode method_2_code 37 = .ok (.if_icmp .ne 7, 3) := by decide +kernel
theorem d0_40 : decode method_2_code 40 = .ok (.getstatic 22, 3) := by decide +kernel
theorem d0_43 : decode method_2_code 43 = .ok (.areturn, 1) := by decide +kernel
theorem d0_44 : decode method_2_code 44 = .ok (.iload_n 0, 1) := by decide +kernel
theorem d0_45 : decode method_2_code 45 = .ok (.iconst 5, 1) := by decide +kernel
theorem d0_46 : decode method_2_code 46 = .ok (.if_icmp .ne 7, 3) := by decide +kernel
theorem d0_49 : decode method_2_code 49 = .ok (.getstatic 25, 3) := by decide +kernel
theorem d0_52 : decode method_2_code 52 = .ok (.areturn, 1) := by decide +kernel
theorem d0_53 : decode method_2_code 53 = .ok (.iload_n 0, 1) := by decide +kernel
theorem d0_54 : decode method_2_code 54 = .ok (.bipush 6, 2) := by decide +kernel
theorem d0_56 : decode method_2_code 56 = .ok (.if_icmp .ne 7, 3) := by decide +kernel
theorem d0_59 : decode method_2_code 59 = .ok (.getstatic 28, 3) := by decide +kernel
theorem d0_62 : decode method_2_code 62 = .ok (.areturn, 1) := by decide +kernel
theorem d0_63 : decode method_2_code 63 = .ok (.iload_n 0, 1) := by decide +kernel
theorem d0_64 : decode method_2_code 64 = .ok (.bipush 7, 2) := by decide +kernel
theorem d0_66 : decode method_2_code 66 = .ok (.if_icmp .ne 7, 3) := by decide +kernel
theorem d0_69 : decode method_2_code 69 = .ok (.getstatic 31, 3) := by decide +kernel
theorem d0_72 : decode method_2_code 72 = .ok (.areturn, 1) := by decide +kernel
theorem d0_73 : decode method_2_code 73 = .ok (.iload_n 0, 1) := by decide +kernel
theorem d0_74 : decode method_2_code 74 = .ok (.bipush 8, 2) := by decide +kernel
theorem d0_76 : decode method_2_code 76 = .ok (.if_icmp .ne 7, 3) := by decide +kernel
theorem d0_79 : decode method_2_code 79 = .ok (.getstatic 34, 3) := by decide +kernel
theorem d0_82 : decode method_2_code 82 = .ok (.areturn, 1) := by decide +kernel
theorem d0_83 : decode method_2_code 83 = .ok (.iload_n 0, 1) := by decide +kernel
theorem d0_84 : decode method_2_code 84 = .ok (.bipush 9, 2) := by decide +kernel
theorem d0_86 : decode method_2_code 86 = .ok (.if_icmp .ne 7, 3) := by decide +kernel
theorem d0_89 : decode method_2_code 89 = .ok (.getstatic 37, 3) := by decide +kernel
theorem d0_92 : decode method_2_code 92 = .ok (.areturn, 1) := by decide +kernel
theorem d0_93 : decode method_2_code 93 = .ok (.iload_n 0, 1) := by decide +kernel
theorem d0_94 : decode method_2_code 94 = .ok (.bipush 10, 2) := by decide +kernel
theorem d0_96 : decode method_2_code 96 = .ok (.if_icmp .ne 7, 3) := by decide +kernel
theorem d0_99 : decode method_2_code 99 = .ok (.getstatic 40, 3) := by decide +kernel
theorem d0_102 : decode method_2_code 102 = .ok (.areturn, 1) := by decide +kernel
theorem d0_103 : decode method_2_code 103 = .ok (.iload_n 0, 1) := by decide +kernel
theorem d0_104 : decode method_2_code 104 = .ok (.bipush 11, 2) := by decide +kernel
theorem d0_106 : decode method_2_code 106 = .ok (.if_icmp .ne 7, 3) := by decide +kernel
theorem d0_109 : decode method_2_code 109 = .ok (.getstatic 43, 3) := by decide +kernel
theorem d0_112 : decode method_2_code 112 = .ok (.areturn, 1) := by decide +kernel
theorem d0_113 : decode method_2_code 113 = .ok (.iload_n 0, 1) := by decide +kernel
theorem d0_114 : decode method_2_code 114 = .ok (.bipush 12, 2) := by decide +kernel
theorem d0_116 : decode method_2_code 116 = .ok (.if_icmp .ne 7, 3) := by decide +kernel
theorem d0_119 : decode method_2_code 119 = .ok (.getstatic 46, 3) := by decide +kernel
theorem d0_122 : decode method_2_code 122 = .ok (.areturn, 1) := by decide +kernel
theorem d0_123 : decode method_2_code 123 = .ok (.iload_n 0, 1) := by decide +kernel
theorem d0_124 : decode method_2_code 124 = .ok (.bipush 13, 2) := by decide +kernel
theorem d0_126 : decode method_2_code 126 = .ok (.if_icmp .ne 7, 3) := by decide +kernel
theorem d0_129 : decode method_2_code 129 = .ok (.getstatic 49, 3) := by decide +kernel
theorem d0_132 : decode method_2_code 132 = .ok (.areturn, 1) := by decide +kernel
theorem d0_133 : decode method_2_code 133 = .ok (.iload_n 0, 1) := by decide +kernel
theorem d0_134 : decode method_2_code 134 = .ok (.bipush 14, 2) := by decide +kernel
theorem d0_136 : decode method_2_code 136 = .ok (.if_icmp .ne 7, 3) := by decide +kernel
theorem d0_139 : decode method_2_code 139 = .ok (.getstatic 52, 3) := by decide +kernel
theorem d0_142 : decode method_2_code 142 = .ok (.areturn, 1) := by decide +kernel
theorem d0_143 : decode method_2_code 143 = .ok (.iload_n 0, 1) := by decide +kernel
theorem d0_144 : decode method_2_code 144 = .ok (.bipush 15, 2) := by decide +kernel
theorem d0_146 : decode method_2_code 146 = .ok (.if_icmp .ne 7, 3) := by decide +kernel
theorem d0_149 : decode method_2_code 149 = .ok (.getstatic 55, 3) := by decide +kernel
theorem d0_152 : decode method_2_code 152 = .ok (.areturn, 1) := by decide +kernel
theorem d0_153 : decode method_2_code 153 = .ok (.iload_n 0, 1) := by decide +kernel
theorem d0_154 : decode method_2_code 154 = .ok (.bipush 16, 2) := by decide +kernel
theorem d0_156 : decode method_2_code 156 = .ok (.if_icmp .ne 7, 3) := by decide +kernel
theorem d0_159 : decode method_2_code 159 = .ok (.getstatic 58, 3) := by decide +kernel
theorem d0_162 : decode method_2_code 162 = .ok (.areturn, 1) := by decide +kernel
theorem d0_163 : decode method_2_code 163 = .ok (.iload_n 0, 1) := by decide +kernel
theorem d0_164 : decode method_2_code 164 = .ok (.bipush 17, 2) := by decide +kernel
theorem d0_166 : decode method_2_code 166 = .ok (.if_icmp .ne 7, 3) := by decide +kernel
theorem d0_169 : decode method_2_code 169 = .ok (.getstatic 61, 3) := by decide +kernel
theorem d0_172 : decode method_2_code 172 = .ok (.areturn, 1) := by decide +kernel
theorem d0_173 : decode method_2_code 173 = .ok (.getstatic 64, 3) := by decide +kernel
theorem d0_176 : decode method_2_code 176 = .ok (.areturn, 1) := by decide +kernel
theorem d1_0 : decode prog_101_method_9_code 0 = .ok (.aload_n 0, 1) := by decide +kernel
theorem d1_1 : decode prog_101_method_9_code 1 = .ok (.getfield 89, 3) := by decide +kernel
theorem d1_4 : decode prog_101_method_9_code 4 = .ok (.bipush 64, 2) := by decide +kernel
theorem d1_6 : decode prog_101_method_9_code 6 = .ok (.iand, 1) := by decide +kernel
theorem d1_7 : decode prog_101_method_9_code 7 = .ok (.ifCond .eq 7, 3) := by decide +kernel
theorem d1_10 : decode prog_101_method_9_code 10 = .ok (.iconst 1, 1) := by decide +kernel
theorem d1_11 : decode prog_101_method_9_code 11 = .ok (.goto 4, 3) := by decide +kernel
theorem d1_14 : decode prog_101_method_9_code 14 = .ok (.iconst 0, 1) := by decide +kernel
theorem d1_15 : decode prog_101_method_9_code 15 = .ok (.ireturn, 1) := by decide +kernel
theorem d2_0 : decode prog_101_method_10_code 0 = .ok (.aload_n 0, 1) := by decide +kernel
theorem d2_1 : decode prog_101_method_10_code 1 = .ok (.getfield 101, 3) := by decide +kernel
theorem d2_4 : decode prog_101_method_10_code 4 = .ok (.areturn, 1) := by decide +kernel
theorem pn0 : plainName "com/example/plainwire/plainwire/rfc806/ElementQualifiedPinLaw" = true := by first | (simp [plainName, overriddenIn]; done) | decide +kernel
theorem pn1 : plainName "com/example/plainwire/plainwire/rfc806/Element" = true := by first | (simp [plainName, overriddenIn]; done) | decide +kernel
theorem pn2 : plainName "com/example/plainwire/plainwire/rfc806/Element" = true := by first | (simp [plainName, overriddenIn]; done) | decide +kernel
theorem pn3 : plainName "com/example/plainwire/plainwire/rfc806/ElementQualifiedPinLaw" = true := by first | (simp [plainName, overriddenIn]; done) | decide +kernel
theorem pd0 : parseMethodDescriptor "(I)Lcom/example/plainwire/plainwire/rfc806/Element;" = some ⟨[.int], some (.object "com/example/plainwire/plainwire/rfc806/Element")⟩ := by decide +kernel
theorem pd1 : parseMethodDescriptor "()Z" = some ⟨[], some .boolean⟩ := by decide +kernel
theorem pd2 : parseMethodDescriptor "()Ljava/lang/String;" = some ⟨[], some (.object "java/lang/String")⟩ := by decide +kernel
def QV (val : Value) (h0 : Heap) (n0 : Nat) (v : Option Value) (h : Heap) (L : List Loc) : Prop := v = some val ∧ Fr n0 L ∧ h = h0
def Ctx (Z : State) (h0 : Heap) (s_NO_OP : Addr) (s_END_OF_CONSTRUCTOR : Addr) (s_ASCII_STRING : Addr) (s_BOOLEAN : Addr) (s_UNIQUE_ID : Addr) (s_SEQUENCE : Addr) (s_SET : Addr) (s_INTEGER : Addr) (s_PADDING : Addr) (s_PROPERTY_LIST : Addr) (s_DATE : Addr) (s_BIT_STRING : Addr) (t_BIT_STRING_qualifierTag : Addr) (s_PROPERTY : Addr) (s_FIELD : Addr) (t_FIELD_qualifierTag : Addr) (s_COMPRESSED : Addr) (s_ENCRYPTED : Addr) (t_ENCRYPTED_qualifierTag : Addr) (s_MESSAGE : Addr) (t_MESSAGE_qualifierTag : Addr) (s_EXTENSION : Addr) (s_VENDOR_DEFINED : Addr) : Prop :=
  Sta Z h0 "com/example/plainwire/plainwire/rfc806/Element" "NO_OP" "Lcom/example/plainwire/plainwire/rfc806/Element;" (.ref s_NO_OP) ∧
  Fld Z h0 s_NO_OP "com/example/plainwire/plainwire/rfc806/Element" "code" "I" (.int (0 : Int32)) ∧
  Exa Z h0 s_NO_OP "com/example/plainwire/plainwire/rfc806/Element" ∧
  Fld Z h0 s_NO_OP "com/example/plainwire/plainwire/rfc806/Element" "qualifierTag" "Ljava/lang/String;" .null ∧
  Sta Z h0 "com/example/plainwire/plainwire/rfc806/Element" "END_OF_CONSTRUCTOR" "Lcom/example/plainwire/plainwire/rfc806/Element;" (.ref s_END_OF_CONSTRUCTOR) ∧
  Fld Z h0 s_END_OF_CONSTRUCTOR "com/example/plainwire/plainwire/rfc806/Element" "code" "I" (.int (1 : Int32)) ∧
  Exa Z h0 s_END_OF_CONSTRUCTOR "com/example/plainwire/plainwire/rfc806/Element" ∧
  Fld Z h0 s_END_OF_CONSTRUCTOR "com/example/plainwire/plainwire/rfc806/Element" "qualifierTag" "Ljava/lang/String;" .null ∧
  Sta Z h0 "com/example/plainwire/plainwire/rfc806/Element" "ASCII_STRING" "Lcom/example/plainwire/plainwire/rfc806/Element;" (.ref s_ASCII_STRING) ∧
  Fld Z h0 s_ASCII_STRING "com/example/plainwire/plainwire/rfc806/Element" "code" "I" (.int (2 : Int32)) ∧
  Exa Z h0 s_ASCII_STRING "com/example/plainwire/plainwire/rfc806/Element" ∧
  Fld Z h0 s_ASCII_STRING "com/example/plainwire/plainwire/rfc806/Element" "qualifierTag" "Ljava/lang/String;" .null ∧
  Sta Z h0 "com/example/plainwire/plainwire/rfc806/Element" "BOOLEAN" "Lcom/example/plainwire/plainwire/rfc806/Element;" (.ref s_BOOLEAN) ∧
  Fld Z h0 s_BOOLEAN "com/example/plainwire/plainwire/rfc806/Element" "code" "I" (.int (8 : Int32)) ∧
  Exa Z h0 s_BOOLEAN "com/example/plainwire/plainwire/rfc806/Element" ∧
  Fld Z h0 s_BOOLEAN "com/example/plainwire/plainwire/rfc806/Element" "qualifierTag" "Ljava/lang/String;" .null ∧
  Sta Z h0 "com/example/plainwire/plainwire/rfc806/Element" "UNIQUE_ID" "Lcom/example/plainwire/plainwire/rfc806/Element;" (.ref s_UNIQUE_ID) ∧
  Fld Z h0 s_UNIQUE_ID "com/example/plainwire/plainwire/rfc806/Element" "code" "I" (.int (9 : Int32)) ∧
  Exa Z h0 s_UNIQUE_ID "com/example/plainwire/plainwire/rfc806/Element" ∧
  Fld Z h0 s_UNIQUE_ID "com/example/plainwire/plainwire/rfc806/Element" "qualifierTag" "Ljava/lang/String;" .null ∧
  Sta Z h0 "com/example/plainwire/plainwire/rfc806/Element" "SEQUENCE" "Lcom/example/plainwire/plainwire/rfc806/Element;" (.ref s_SEQUENCE) ∧
  Fld Z h0 s_SEQUENCE "com/example/plainwire/plainwire/rfc806/Element" "code" "I" (.int (10 : Int32)) ∧
  Exa Z h0 s_SEQUENCE "com/example/plainwire/plainwire/rfc806/Element" ∧
  Fld Z h0 s_SEQUENCE "com/example/plainwire/plainwire/rfc806/Element" "qualifierTag" "Ljava/lang/String;" .null ∧
  Sta Z h0 "com/example/plainwire/plainwire/rfc806/Element" "SET" "Lcom/example/plainwire/plainwire/rfc806/Element;" (.ref s_SET) ∧
  Fld Z h0 s_SET "com/example/plainwire/plainwire/rfc806/Element" "code" "I" (.int (11 : Int32)) ∧
  Exa Z h0 s_SET "com/example/plainwire/plainwire/rfc806/Element" ∧
  Fld Z h0 s_SET "com/example/plainwire/plainwire/rfc806/Element" "qualifierTag" "Ljava/lang/String;" .null ∧
  Sta Z h0 "com/example/plainwire/plainwire/rfc806/Element" "INTEGER" "Lcom/example/plainwire/plainwire/rfc806/Element;" (.ref s_INTEGER) ∧
  Fld Z h0 s_INTEGER "com/example/plainwire/plainwire/rfc806/Element" "code" "I" (.int (32 : Int32)) ∧
  Exa Z h0 s_INTEGER "com/example/plainwire/plainwire/rfc806/Element" ∧
  Fld Z h0 s_INTEGER "com/example/plainwire/plainwire/rfc806/Element" "qualifierTag" "Ljava/lang/String;" .null ∧
  Sta Z h0 "com/example/plainwire/plainwire/rfc806/Element" "PADDING" "Lcom/example/plainwire/plainwire/rfc806/Element;" (.ref s_PADDING) ∧
  Fld Z h0 s_PADDING "com/example/plainwire/plainwire/rfc806/Element" "code" "I" (.int (33 : Int32)) ∧
  Exa Z h0 s_PADDING "com/example/plainwire/plainwire/rfc806/Element" ∧
  Fld Z h0 s_PADDING "com/example/plainwire/plainwire/rfc806/Element" "qualifierTag" "Ljava/lang/String;" .null ∧
  Sta Z h0 "com/example/plainwire/plainwire/rfc806/Element" "PROPERTY_LIST" "Lcom/example/plainwire/plainwire/rfc806/Element;" (.ref s_PROPERTY_LIST) ∧
  Fld Z h0 s_PROPERTY_LIST "com/example/plainwire/plainwire/rfc806/Element" "code" "I" (.int (36 : Int32)) ∧
  Exa Z h0 s_PROPERTY_LIST "com/example/plainwire/plainwire/rfc806/Element" ∧
  Fld Z h0 s_PROPERTY_LIST "com/example/plainwire/plainwire/rfc806/Element" "qualifierTag" "Ljava/lang/String;" .null ∧
  Sta Z h0 "com/example/plainwire/plainwire/rfc806/Element" "DATE" "Lcom/example/plainwire/plainwire/rfc806/Element;" (.ref s_DATE) ∧
  Fld Z h0 s_DATE "com/example/plainwire/plainwire/rfc806/Element" "code" "I" (.int (40 : Int32)) ∧
  Exa Z h0 s_DATE "com/example/plainwire/plainwire/rfc806/Element" ∧
  Fld Z h0 s_DATE "com/example/plainwire/plainwire/rfc806/Element" "qualifierTag" "Ljava/lang/String;" .null ∧
  Sta Z h0 "com/example/plainwire/plainwire/rfc806/Element" "BIT_STRING" "Lcom/example/plainwire/plainwire/rfc806/Element;" (.ref s_BIT_STRING) ∧
  Fld Z h0 s_BIT_STRING "com/example/plainwire/plainwire/rfc806/Element" "code" "I" (.int (67 : Int32)) ∧
  Exa Z h0 s_BIT_STRING "com/example/plainwire/plainwire/rfc806/Element" ∧
  Fld Z h0 s_BIT_STRING "com/example/plainwire/plainwire/rfc806/Element" "qualifierTag" "Ljava/lang/String;" (.ref t_BIT_STRING_qualifierTag) ∧
  Sta Z h0 "com/example/plainwire/plainwire/rfc806/Element" "PROPERTY" "Lcom/example/plainwire/plainwire/rfc806/Element;" (.ref s_PROPERTY) ∧
  Fld Z h0 s_PROPERTY "com/example/plainwire/plainwire/rfc806/Element" "code" "I" (.int (69 : Int32)) ∧
  Exa Z h0 s_PROPERTY "com/example/plainwire/plainwire/rfc806/Element" ∧
  Fld Z h0 s_PROPERTY "com/example/plainwire/plainwire/rfc806/Element" "qualifierTag" "Ljava/lang/String;" (.ref t_FIELD_qualifierTag) ∧
  Sta Z h0 "com/example/plainwire/plainwire/rfc806/Element" "COMPRESSED" "Lcom/example/plainwire/plainwire/rfc806/Element;" (.ref s_COMPRESSED) ∧
  Fld Z h0 s_COMPRESSED "com/example/plainwire/plainwire/rfc806/Element" "code" "I" (.int (70 : Int32)) ∧
  Exa Z h0 s_COMPRESSED "com/example/plainwire/plainwire/rfc806/Element" ∧
  Fld Z h0 s_COMPRESSED "com/example/plainwire/plainwire/rfc806/Element" "qualifierTag" "Ljava/lang/String;" (.ref t_ENCRYPTED_qualifierTag) ∧
  Sta Z h0 "com/example/plainwire/plainwire/rfc806/Element" "ENCRYPTED" "Lcom/example/plainwire/plainwire/rfc806/Element;" (.ref s_ENCRYPTED) ∧
  Fld Z h0 s_ENCRYPTED "com/example/plainwire/plainwire/rfc806/Element" "code" "I" (.int (71 : Int32)) ∧
  Exa Z h0 s_ENCRYPTED "com/example/plainwire/plainwire/rfc806/Element" ∧
  Fld Z h0 s_ENCRYPTED "com/example/plainwire/plainwire/rfc806/Element" "qualifierTag" "Ljava/lang/String;" (.ref t_ENCRYPTED_qualifierTag) ∧
  Sta Z h0 "com/example/plainwire/plainwire/rfc806/Element" "FIELD" "Lcom/example/plainwire/plainwire/rfc806/Element;" (.ref s_FIELD) ∧
  Fld Z h0 s_FIELD "com/example/plainwire/plainwire/rfc806/Element" "code" "I" (.int (76 : Int32)) ∧
  Exa Z h0 s_FIELD "com/example/plainwire/plainwire/rfc806/Element" ∧
  Fld Z h0 s_FIELD "com/example/plainwire/plainwire/rfc806/Element" "qualifierTag" "Ljava/lang/String;" (.ref t_FIELD_qualifierTag) ∧
  Sta Z h0 "com/example/plainwire/plainwire/rfc806/Element" "MESSAGE" "Lcom/example/plainwire/plainwire/rfc806/Element;" (.ref s_MESSAGE) ∧
  Fld Z h0 s_MESSAGE "com/example/plainwire/plainwire/rfc806/Element" "code" "I" (.int (77 : Int32)) ∧
  Exa Z h0 s_MESSAGE "com/example/plainwire/plainwire/rfc806/Element" ∧
  Fld Z h0 s_MESSAGE "com/example/plainwire/plainwire/rfc806/Element" "qualifierTag" "Ljava/lang/String;" (.ref t_MESSAGE_qualifierTag) ∧
  Sta Z h0 "com/example/plainwire/plainwire/rfc806/Element" "EXTENSION" "Lcom/example/plainwire/plainwire/rfc806/Element;" (.ref s_EXTENSION) ∧
  Fld Z h0 s_EXTENSION "com/example/plainwire/plainwire/rfc806/Element" "code" "I" (.int (126 : Int32)) ∧
  Exa Z h0 s_EXTENSION "com/example/plainwire/plainwire/rfc806/Element" ∧
  Fld Z h0 s_EXTENSION "com/example/plainwire/plainwire/rfc806/Element" "qualifierTag" "Ljava/lang/String;" (.ref t_FIELD_qualifierTag) ∧
  Sta Z h0 "com/example/plainwire/plainwire/rfc806/Element" "VENDOR_DEFINED" "Lcom/example/plainwire/plainwire/rfc806/Element;" (.ref s_VENDOR_DEFINED) ∧
  Fld Z h0 s_VENDOR_DEFINED "com/example/plainwire/plainwire/rfc806/Element" "code" "I" (.int (127 : Int32)) ∧
  Exa Z h0 s_VENDOR_DEFINED "com/example/plainwire/plainwire/rfc806/Element" ∧
  Fld Z h0 s_VENDOR_DEFINED "com/example/plainwire/plainwire/rfc806/Element" "qualifierTag" "Ljava/lang/String;" (.ref t_FIELD_qualifierTag)

set_option maxRecDepth 65536 in
set_option maxHeartbeats 40000000 in
theorem r0 (l : Launch) (Z : State) (a0 : Array Value) (hw : ∀ d ∈ tables_1, d.before a0 Z = true) (ws : List Jvm.Cond) (h0 : Heap) (n0 : Nat) (s_NO_OP : Addr) (s_END_OF_CONSTRUCTOR : Addr) (s_ASCII_STRING : Addr) (s_BOOLEAN : Addr) (s_UNIQUE_ID : Addr) (s_SEQUENCE : Addr) (s_SET : Addr) (s_INTEGER : Addr) (s_PADDING : Addr) (s_PROPERTY_LIST : Addr) (s_DATE : Addr) (s_BIT_STRING : Addr) (t_BIT_STRING_qualifierTag : Addr) (s_PROPERTY : Addr) (s_FIELD : Addr) (t_FIELD_qualifierTag : Addr) (s_COMPRESSED : Addr) (s_ENCRYPTED : Addr) (t_ENCRYPTED_qualifierTag : Addr) (s_MESSAGE : Addr) (t_MESSAGE_qualifierTag : Addr) (s_EXTENSION : Addr) (s_VENDOR_DEFINED : Addr) (K : Ctx Z h0 s_NO_OP s_END_OF_CONSTRUCTOR s_ASCII_STRING s_BOOLEAN s_UNIQUE_ID s_SEQUENCE s_SET s_INTEGER s_PADDING s_PROPERTY_LIST s_DATE s_BIT_STRING t_BIT_STRING_qualifierTag s_PROPERTY s_FIELD t_FIELD_qualifierTag s_COMPRESSED s_ENCRYPTED t_ENCRYPTED_qualifierTag s_MESSAGE t_MESSAGE_qualifierTag s_EXTENSION s_VENDOR_DEFINED) :
    MetFree l (⟨"com/example/plainwire/plainwire/rfc806/ElementQualifiedPinLaw", "pick", "(I)Lcom/example/plainwire/plainwire/rfc806/Element;"⟩ : MethodName) (head1 (Jvm.Cond.code (⟨"com/example/plainwire/plainwire/rfc806/ElementQualifiedPinLaw", "pick", "(I)Lcom/example/plainwire/plainwire/rfc806/Element;"⟩ : MethodName) method_2_code 1 (some (.object "com/example/plainwire/plainwire/rfc806/Element")) :: ws) ({ frames := 0, cells := 0, slots := 0, locals := 0 } : Room)) (fun a U => a = #[(.int (0 : Int32))] ∧ Z.Warmed39 U.vm ∧ U.heap = h0) (fun _ _ _ _ _ => True) (fun _ U o U' => ∃ v L, o = .returned v ∧ QV (.ref s_NO_OP) h0 n0 v U'.heap L ∧ FrameEnd U o U' L ({ frames := 0, cells := 0, slots := 0, locals := 0 } : Room).cells ({ frames := 0, cells := 0, slots := 0, locals := 0 } : Room).slots) := by
  obtain ⟨S_NO_OP, F_NO_OP_code, E_NO_OP, F_NO_OP_qualifierTag, S_END_OF_CONSTRUCTOR, F_END_OF_CONSTRUCTOR_code, E_END_OF_CONSTRUCTOR, F_END_OF_CONSTRUCTOR_qualifierTag, S_ASCII_STRING, F_ASCII_STRING_code, E_ASCII_STRING, F_ASCII_STRING_qualifierTag, S_BOOLEAN, F_BOOLEAN_code, E_BOOLEAN, F_BOOLEAN_qualifierTag, S_UNIQUE_ID, F_UNIQUE_ID_code, E_UNIQUE_ID, F_UNIQUE_ID_qualifierTag, S_SEQUENCE, F_SEQUENCE_code, E_SEQUENCE, F_SEQUENCE_qualifierTag, S_SET, F_SET_code, E_SET, F_SET_qualifierTag, S_INTEGER, F_INTEGER_code, E_INTEGER, F_INTEGER_qualifierTag, S_PADDING, F_PADDING_code, E_PADDING, F_PADDING_qualifierTag, S_PROPERTY_LIST, F_PROPERTY_LIST_code, E_PROPERTY_LIST, F_PROPERTY_LIST_qualifierTag, S_DATE, F_DATE_code, E_DATE, F_DATE_qualifierTag, S_BIT_STRING, F_BIT_STRING_code, E_BIT_STRING, F_BIT_STRING_qualifierTag, S_PROPERTY, F_PROPERTY_code, E_PROPERTY, F_PROPERTY_qualifierTag, S_COMPRESSED, F_COMPRESSED_code, E_COMPRESSED, F_COMPRESSED_qualifierTag, S_ENCRYPTED, F_ENCRYPTED_code, E_ENCRYPTED, F_ENCRYPTED_qualifierTag, S_FIELD, F_FIELD_code, E_FIELD, F_FIELD_qualifierTag, S_MESSAGE, F_MESSAGE_code, E_MESSAGE, F_MESSAGE_qualifierTag, S_EXTENSION, F_EXTENSION_code, E_EXTENSION, F_EXTENSION_qualifierTag, S_VENDOR_DEFINED, F_VENDOR_DEFINED_code, E_VENDOR_DEFINED, F_VENDOR_DEFINED_qualifierTag⟩ := id K
  refine MetFree.of_bodySF (plainFor_of_name pn0) hisR ?_
  intro p e s m args below meth c s₁ Bd hml0 hP hK
  obtain ⟨rfl, hZ, hh⟩ := hP
  have hx := Bd.exec
  have hby := Bd.bytes
  have hml : c.maxLocals = 1 := hml0
  have hown : s.vm.findClass "com/example/plainwire/plainwire/rfc806/ElementQualifiedPinLaw" = some m.cls := findClass_of_methodNamed Bd.named
  have X0 : Stand p l e ({ frames := 0, cells := 0, slots := 0, locals := 0 } : Room) s m #[(.int (0 : Int32))] below meth c s₁ [] 0 0 := Stand.of_body Bd
  have e0 : s₁.heap = h0 := by rw [← hh, Bd.state]; rfl
  have N0 := Fr.nil n0
  have pre0 : ∀ t, Steps p.tables e below (s₁.setTop (mkF m 0 #[.val (.int (0 : Int32))] [])) t → Steps p.tables e below (s₁.setTop (entryFrame m #[(.int (0 : Int32))] 1)) t := fun t k => castTop (by first | (simp [entryFrame, mkF, argsToLocals, Value.category]; done) | rfl) k
  obtain ⟨T1, X1, e1, st1⟩ := getS X0 hx hZ hown (host := "") (hw _ (List.mem_of_getElem? (i := 5) rfl)) Via.refl e0 S_NO_OP (g := (mkF m 4 #[.val (.int (0 : Int32))] [])) rfl (hb hby d0_4)
  obtain ⟨fs, hr, hrun, hended, hW, hsame⟩ := X1.leave (v := some (.ref s_NO_OP)) (fun h => by rw [Bd.returns] at h; cases h)
  refine ⟨_, _, pre0 _ ?_, hrun, hended, _, _, rfl, ?_, ⟨_, rfl⟩, hW, hsame.mono (by decide) (by decide)⟩
  · show Steps p.tables e below (s₁.setTop (mkF m 0 #[.val (.int (0 : Int32))] [])) _
    refine XS.iloadN X0.here hx rfl (hb hby d0_0) rfl ?_
    show Steps p.tables e below (s₁.setTop (mkF m 1 #[.val (.int (0 : Int32))] [(.int (0 : Int32))])) _
    refine XS.ifNo X0.here hx rfl (hb hby d0_1) rfl (by decide +kernel) ?_
    show Steps p.tables e below (s₁.setTop (mkF m 4 #[.val (.int (0 : Int32))] [])) _
    refine st1 _ ?_
    show Steps p.tables e below (T1.setTop (mkF m 7 #[.val (.int (0 : Int32))] [(.ref s_NO_OP)])) _
    exact retOut X1 hx (i := .areturn) Bd.returns rfl (Or.inr (Or.inr (Or.inr (Or.inr ⟨rfl, rfl, rfl⟩)))) (hb hby d0_7) hr
  · exact ⟨rfl, N0, e1⟩
set_option maxRecDepth 65536 in
set_option maxHeartbeats 40000000 in
theorem r1 (l : Launch) (Z : State) (a0 : Array Value) (hw : ∀ d ∈ tables_1, d.before a0 Z = true) (ws : List Jvm.Cond) (h0 : Heap) (n0 : Nat) (s_NO_OP : Addr) (s_END_OF_CONSTRUCTOR : Addr) (s_ASCII_STRING : Addr) (s_BOOLEAN : Addr) (s_UNIQUE_ID : Addr) (s_SEQUENCE : Addr) (s_SET : Addr) (s_INTEGER : Addr) (s_PADDING : Addr) (s_PROPERTY_LIST : Addr) (s_DATE : Addr) (s_BIT_STRING : Addr) (t_BIT_STRING_qualifierTag : Addr) (s_PROPERTY : Addr) (s_FIELD : Addr) (t_FIELD_qualifierTag : Addr) (s_COMPRESSED : Addr) (s_ENCRYPTED : Addr) (t_ENCRYPTED_qualifierTag : Addr) (s_MESSAGE : Addr) (t_MESSAGE_qualifierTag : Addr) (s_EXTENSION : Addr) (s_VENDOR_DEFINED : Addr) (K : Ctx Z h0 s_NO_OP s_END_OF_CONSTRUCTOR s_ASCII_STRING s_BOOLEAN s_UNIQUE_ID s_SEQUENCE s_SET s_INTEGER s_PADDING s_PROPERTY_LIST s_DATE s_BIT_STRING t_BIT_STRING_qualifierTag s_PROPERTY s_FIELD t_FIELD_qualifierTag s_COMPRESSED s_ENCRYPTED t_ENCRYPTED_qualifierTag s_MESSAGE t_MESSAGE_qualifierTag s_EXTENSION s_VENDOR_DEFINED) :
    MetFree l (⟨"com/example/plainwire/plainwire/rfc806/Element", "qualified", "()Z"⟩ : MethodName) (head1 (Jvm.Cond.code (⟨"com/example/plainwire/plainwire/rfc806/Element", "qualified", "()Z"⟩ : MethodName) prog_101_method_9_code 1 (some .boolean) :: ws) ({ frames := 0, cells := 0, slots := 0, locals := 0 } : Room)) (fun a U => a = #[(.ref s_NO_OP)] ∧ Z.Warmed39 U.vm ∧ U.heap = h0) (fun _ _ _ _ _ => True) (fun _ U o U' => ∃ v L, o = .returned v ∧ QV (.int (0 : Int32)) h0 n0 v U'.heap L ∧ FrameEnd U o U' L ({ frames := 0, cells := 0, slots := 0, locals := 0 } : Room).cells ({ frames := 0, cells := 0, slots := 0, locals := 0 } : Room).slots) := by
  obtain ⟨S_NO_OP, F_NO_OP_code, E_NO_OP, F_NO_OP_qualifierTag, S_END_OF_CONSTRUCTOR, F_END_OF_CONSTRUCTOR_code, E_END_OF_CONSTRUCTOR, F_END_OF_CONSTRUCTOR_qualifierTag, S_ASCII_STRING, F_ASCII_STRING_code, E_ASCII_STRING, F_ASCII_STRING_qualifierTag, S_BOOLEAN, F_BOOLEAN_code, E_BOOLEAN, F_BOOLEAN_qualifierTag, S_UNIQUE_ID, F_UNIQUE_ID_code, E_UNIQUE_ID, F_UNIQUE_ID_qualifierTag, S_SEQUENCE, F_SEQUENCE_code, E_SEQUENCE, F_SEQUENCE_qualifierTag, S_SET, F_SET_code, E_SET, F_SET_qualifierTag, S_INTEGER, F_INTEGER_code, E_INTEGER, F_INTEGER_qualifierTag, S_PADDING, F_PADDING_code, E_PADDING, F_PADDING_qualifierTag, S_PROPERTY_LIST, F_PROPERTY_LIST_code, E_PROPERTY_LIST, F_PROPERTY_LIST_qualifierTag, S_DATE, F_DATE_code, E_DATE, F_DATE_qualifierTag, S_BIT_STRING, F_BIT_STRING_code, E_BIT_STRING, F_BIT_STRING_qualifierTag, S_PROPERTY, F_PROPERTY_code, E_PROPERTY, F_PROPERTY_qualifierTag, S_COMPRESSED, F_COMPRESSED_code, E_COMPRESSED, F_COMPRESSED_qualifierTag, S_ENCRYPTED, F_ENCRYPTED_code, E_ENCRYPTED, F_ENCRYPTED_qualifierTag, S_FIELD, F_FIELD_code, E_FIELD, F_FIELD_qualifierTag, S_MESSAGE, F_MESSAGE_code, E_MESSAGE, F_MESSAGE_qualifierTag, S_EXTENSION, F_EXTENSION_code, E_EXTENSION, F_EXTENSION_qualifierTag, S_VENDOR_DEFINED, F_VENDOR_DEFINED_code, E_VENDOR_DEFINED, F_VENDOR_DEFINED_qualifierTag⟩ := id K
  refine MetFree.of_bodySF (plainFor_of_name pn1) hisR ?_
  intro p e s m args below meth c s₁ Bd hml0 hP hK
  obtain ⟨rfl, hZ, hh⟩ := hP
  have hx := Bd.exec
  have hby := Bd.bytes
  have hml : c.maxLocals = 1 := hml0
  have hown : s.vm.findClass "com/example/plainwire/plainwire/rfc806/Element" = some m.cls := findClass_of_methodNamed Bd.named
  have X0 : Stand p l e ({ frames := 0, cells := 0, slots := 0, locals := 0 } : Room) s m #[(.ref s_NO_OP)] below meth c s₁ [] 0 0 := Stand.of_body Bd
  have e0 : s₁.heap = h0 := by rw [← hh, Bd.state]; rfl
  have N0 := Fr.nil n0
  have pre0 : ∀ t, Steps p.tables e below (s₁.setTop (mkF m 0 #[.val (.ref s_NO_OP)] [])) t → Steps p.tables e below (s₁.setTop (entryFrame m #[(.ref s_NO_OP)] 1)) t := fun t k => castTop (by first | (simp [entryFrame, mkF, argsToLocals, Value.category]; done) | rfl) k
  obtain ⟨T1, X1, e1, st1⟩ := getF X0 hx hZ hown (host := "") (Or.inl (hw _ (List.mem_of_getElem? (i := 13) rfl))) Via.refl e0 F_NO_OP_code (g := (mkF m 1 #[.val (.ref s_NO_OP)] [(.ref s_NO_OP)])) rfl rfl (hb hby d1_1)
  obtain ⟨fs, hr, hrun, hended, hW, hsame⟩ := X1.leave (v := some (.int (0 : Int32))) (fun h => by rw [Bd.returns] at h; cases h)
  refine ⟨_, _, pre0 _ ?_, hrun, hended, _, _, rfl, ?_, ⟨_, rfl⟩, hW, hsame.mono (by decide) (by decide)⟩
  · show Steps p.tables e below (s₁.setTop (mkF m 0 #[.val (.ref s_NO_OP)] [])) _
    refine XS.aloadN X0.here hx rfl (hb hby d1_0) rfl rfl ?_
    show Steps p.tables e below (s₁.setTop (mkF m 1 #[.val (.ref s_NO_OP)] [(.ref s_NO_OP)])) _
    refine st1 _ ?_
    show Steps p.tables e below (T1.setTop (mkF m 4 #[.val (.ref s_NO_OP)] [(.int (0 : Int32))])) _
    refine XS.bipush X1.here hx rfl (hb hby d1_4) ?_
    show Steps p.tables e below (T1.setTop (mkF m 6 #[.val (.ref s_NO_OP)] [(.int (64 : Int32)), (.int (0 : Int32))])) _
    refine XS.iand X1.here hx rfl (hb hby d1_6) rfl ?_
    show Steps p.tables e below (T1.setTop (mkF m 7 #[.val (.ref s_NO_OP)] [(.int ((0 : Int32) &&& (64 : Int32)))])) _
    rw [show ((0 : Int32) &&& (64 : Int32)) = (0 : Int32) from by decide +kernel]
    show Steps p.tables e below (T1.setTop (mkF m 7 #[.val (.ref s_NO_OP)] [(.int (0 : Int32))])) _
    refine XS.ifYes X1.here hx rfl (pc0 := 7) (pc' := 14) rfl (hb hby d1_7) rfl (by decide +kernel) (by decide) (by decide) ?_
    show Steps p.tables e below (T1.setTop (mkF m 14 #[.val (.ref s_NO_OP)] [])) _
    refine XS.iconst X1.here hx rfl (hb hby d1_14) ?_
    show Steps p.tables e below (T1.setTop (mkF m 15 #[.val (.ref s_NO_OP)] [(.int (0 : Int32))])) _
    exact retN X1 hx (t := .boolean) Bd.returns (by simp) (hb hby d1_15) hr
  · exact ⟨rfl, N0, e1⟩
set_option maxRecDepth 65536 in
set_option maxHeartbeats 40000000 in
theorem r2 (l : Launch) (Z : State) (a0 : Array Value) (hw : ∀ d ∈ tables_1, d.before a0 Z = true) (ws : List Jvm.Cond) (h0 : Heap) (n0 : Nat) (s_NO_OP : Addr) (s_END_OF_CONSTRUCTOR : Addr) (s_ASCII_STRING : Addr) (s_BOOLEAN : Addr) (s_UNIQUE_ID : Addr) (s_SEQUENCE : Addr) (s_SET : Addr) (s_INTEGER : Addr) (s_PADDING : Addr) (s_PROPERTY_LIST : Addr) (s_DATE : Addr) (s_BIT_STRING : Addr) (t_BIT_STRING_qualifierTag : Addr) (s_PROPERTY : Addr) (s_FIELD : Addr) (t_FIELD_qualifierTag : Addr) (s_COMPRESSED : Addr) (s_ENCRYPTED : Addr) (t_ENCRYPTED_qualifierTag : Addr) (s_MESSAGE : Addr) (t_MESSAGE_qualifierTag : Addr) (s_EXTENSION : Addr) (s_VENDOR_DEFINED : Addr) (K : Ctx Z h0 s_NO_OP s_END_OF_CONSTRUCTOR s_ASCII_STRING s_BOOLEAN s_UNIQUE_ID s_SEQUENCE s_SET s_INTEGER s_PADDING s_PROPERTY_LIST s_DATE s_BIT_STRING t_BIT_STRING_qualifierTag s_PROPERTY s_FIELD t_FIELD_qualifierTag s_COMPRESSED s_ENCRYPTED t_ENCRYPTED_qualifierTag s_MESSAGE t_MESSAGE_qualifierTag s_EXTENSION s_VENDOR_DEFINED) :
    MetFree l (⟨"com/example/plainwire/plainwire/rfc806/Element", "qualifierTag", "()Ljava/lang/String;"⟩ : MethodName) (head1 (Jvm.Cond.code (⟨"com/example/plainwire/plainwire/rfc806/Element", "qualifierTag", "()Ljava/lang/String;"⟩ : MethodName) prog_101_method_10_code 1 (some (.object "java/lang/String")) :: ws) ({ frames := 0, cells := 0, slots := 0, locals := 0 } : Room)) (fun a U => a = #[(.ref s_NO_OP)] ∧ Z.Warmed39 U.vm ∧ U.heap = h0) (fun _ _ _ _ _ => True) (fun _ U o U' => ∃ v L, o = .returned v ∧ QV .null h0 n0 v U'.heap L ∧ FrameEnd U o U' L ({ frames := 0, cells := 0, slots := 0, locals := 0 } : Room).cells ({ frames := 0, cells := 0, slots := 0, locals := 0 } : Room).slots) := by
  obtain ⟨S_NO_OP, F_NO_OP_code, E_NO_OP, F_NO_OP_qualifierTag, S_END_OF_CONSTRUCTOR, F_END_OF_CONSTRUCTOR_code, E_END_OF_CONSTRUCTOR, F_END_OF_CONSTRUCTOR_qualifierTag, S_ASCII_STRING, F_ASCII_STRING_code, E_ASCII_STRING, F_ASCII_STRING_qualifierTag, S_BOOLEAN, F_BOOLEAN_code, E_BOOLEAN, F_BOOLEAN_qualifierTag, S_UNIQUE_ID, F_UNIQUE_ID_code, E_UNIQUE_ID, F_UNIQUE_ID_qualifierTag, S_SEQUENCE, F_SEQUENCE_code, E_SEQUENCE, F_SEQUENCE_qualifierTag, S_SET, F_SET_code, E_SET, F_SET_qualifierTag, S_INTEGER, F_INTEGER_code, E_INTEGER, F_INTEGER_qualifierTag, S_PADDING, F_PADDING_code, E_PADDING, F_PADDING_qualifierTag, S_PROPERTY_LIST, F_PROPERTY_LIST_code, E_PROPERTY_LIST, F_PROPERTY_LIST_qualifierTag, S_DATE, F_DATE_code, E_DATE, F_DATE_qualifierTag, S_BIT_STRING, F_BIT_STRING_code, E_BIT_STRING, F_BIT_STRING_qualifierTag, S_PROPERTY, F_PROPERTY_code, E_PROPERTY, F_PROPERTY_qualifierTag, S_COMPRESSED, F_COMPRESSED_code, E_COMPRESSED, F_COMPRESSED_qualifierTag, S_ENCRYPTED, F_ENCRYPTED_code, E_ENCRYPTED, F_ENCRYPTED_qualifierTag, S_FIELD, F_FIELD_code, E_FIELD, F_FIELD_qualifierTag, S_MESSAGE, F_MESSAGE_code, E_MESSAGE, F_MESSAGE_qualifierTag, S_EXTENSION, F_EXTENSION_code, E_EXTENSION, F_EXTENSION_qualifierTag, S_VENDOR_DEFINED, F_VENDOR_DEFINED_code, E_VENDOR_DEFINED, F_VENDOR_DEFINED_qualifierTag⟩ := id K
  refine MetFree.of_bodySF (plainFor_of_name pn2) hisR ?_
  intro p e s m args below meth c s₁ Bd hml0 hP hK
  obtain ⟨rfl, hZ, hh⟩ := hP
  have hx := Bd.exec
  have hby := Bd.bytes
  have hml : c.maxLocals = 1 := hml0
  have hown : s.vm.findClass "com/example/plainwire/plainwire/rfc806/Element" = some m.cls := findClass_of_methodNamed Bd.named
  have X0 : Stand p l e ({ frames := 0, cells := 0, slots := 0, locals := 0 } : Room) s m #[(.ref s_NO_OP)] below meth c s₁ [] 0 0 := Stand.of_body Bd
  have e0 : s₁.heap = h0 := by rw [← hh, Bd.state]; rfl
  have N0 := Fr.nil n0
  have pre0 : ∀ t, Steps p.tables e below (s₁.setTop (mkF m 0 #[.val (.ref s_NO_OP)] [])) t → Steps p.tables e below (s₁.setTop (entryFrame m #[(.ref s_NO_OP)] 1)) t := fun t k => castTop (by first | (simp [entryFrame, mkF, argsToLocals, Value.category]; done) | rfl) k
  obtain ⟨T1, X1, e1, st1⟩ := getF X0 hx hZ hown (host := "") (Or.inl (hw _ (List.mem_of_getElem? (i := 20) rfl))) Via.refl e0 F_NO_OP_qualifierTag (g := (mkF m 1 #[.val (.ref s_NO_OP)] [(.ref s_NO_OP)])) rfl rfl (hb hby d2_1)
  obtain ⟨fs, hr, hrun, hended, hW, hsame⟩ := X1.leave (v := some .null) (fun h => by rw [Bd.returns] at h; cases h)
  refine ⟨_, _, pre0 _ ?_, hrun, hended, _, _, rfl, ?_, ⟨_, rfl⟩, hW, hsame.mono (by decide) (by decide)⟩
  · show Steps p.tables e below (s₁.setTop (mkF m 0 #[.val (.ref s_NO_OP)] [])) _
    refine XS.aloadN X0.here hx rfl (hb hby d2_0) rfl rfl ?_
    show Steps p.tables e below (s₁.setTop (mkF m 1 #[.val (.ref s_NO_OP)] [(.ref s_NO_OP)])) _
    refine st1 _ ?_
    show Steps p.tables e below (T1.setTop (mkF m 4 #[.val (.ref s_NO_OP)] [.null])) _
    exact retOut X1 hx (i := .areturn) Bd.returns rfl (Or.inr (Or.inr (Or.inr (Or.inr ⟨rfl, rfl, rfl⟩)))) (hb hby d2_4) hr
  · exact ⟨rfl, N0, e1⟩
set_option maxRecDepth 65536 in
set_option maxHeartbeats 40000000 in
theorem law_k0 (l : Launch) (Z : State) (a0 : Array Value) (hw : ∀ d ∈ tables_1, d.before a0 Z = true) (ws : List Jvm.Cond) (h0 : Heap) (n0 : Nat) (s_NO_OP : Addr) (s_END_OF_CONSTRUCTOR : Addr) (s_ASCII_STRING : Addr) (s_BOOLEAN : Addr) (s_UNIQUE_ID : Addr) (s_SEQUENCE : Addr) (s_SET : Addr) (s_INTEGER : Addr) (s_PADDING : Addr) (s_PROPERTY_LIST : Addr) (s_DATE : Addr) (s_BIT_STRING : Addr) (t_BIT_STRING_qualifierTag : Addr) (s_PROPERTY : Addr) (s_FIELD : Addr) (t_FIELD_qualifierTag : Addr) (s_COMPRESSED : Addr) (s_ENCRYPTED : Addr) (t_ENCRYPTED_qualifierTag : Addr) (s_MESSAGE : Addr) (t_MESSAGE_qualifierTag : Addr) (s_EXTENSION : Addr) (s_VENDOR_DEFINED : Addr) (K : Ctx Z h0 s_NO_OP s_END_OF_CONSTRUCTOR s_ASCII_STRING s_BOOLEAN s_UNIQUE_ID s_SEQUENCE s_SET s_INTEGER s_PADDING s_PROPERTY_LIST s_DATE s_BIT_STRING t_BIT_STRING_qualifierTag s_PROPERTY s_FIELD t_FIELD_qualifierTag s_COMPRESSED s_ENCRYPTED t_ENCRYPTED_qualifierTag s_MESSAGE t_MESSAGE_qualifierTag s_EXTENSION s_VENDOR_DEFINED) (p0 : Int32) (hp0 : ((p0 &&& (2147483647 : Int32)) % (19 : Int32)) = (0 : Int32)) :
    MetFree l x (head1 (Jvm.Cond.code x code maxLocals ret :: ws) room_1) (fun a U => a = #[(.int p0)] ∧ Z.Warmed39 U.vm ∧ U.heap = h0) (fun _ _ _ _ _ => True) (fun _ U o U' => ∃ v L, o = .returned v ∧ QV (.int (1 : Int32)) h0 n0 v U'.heap L ∧ FrameEnd U o U' L room_1.cells room_1.slots) := by
  obtain ⟨S_NO_OP, F_NO_OP_code, E_NO_OP, F_NO_OP_qualifierTag, S_END_OF_CONSTRUCTOR, F_END_OF_CONSTRUCTOR_code, E_END_OF_CONSTRUCTOR, F_END_OF_CONSTRUCTOR_qualifierTag, S_ASCII_STRING, F_ASCII_STRING_code, E_ASCII_STRING, F_ASCII_STRING_qualifierTag, S_BOOLEAN, F_BOOLEAN_code, E_BOOLEAN, F_BOOLEAN_qualifierTag, S_UNIQUE_ID, F_UNIQUE_ID_code, E_UNIQUE_ID, F_UNIQUE_ID_qualifierTag, S_SEQUENCE, F_SEQUENCE_code, E_SEQUENCE, F_SEQUENCE_qualifierTag, S_SET, F_SET_code, E_SET, F_SET_qualifierTag, S_INTEGER, F_INTEGER_code, E_INTEGER, F_INTEGER_qualifierTag, S_PADDING, F_PADDING_code, E_PADDING, F_PADDING_qualifierTag, S_PROPERTY_LIST, F_PROPERTY_LIST_code, E_PROPERTY_LIST, F_PROPERTY_LIST_qualifierTag, S_DATE, F_DATE_code, E_DATE, F_DATE_qualifierTag, S_BIT_STRING, F_BIT_STRING_code, E_BIT_STRING, F_BIT_STRING_qualifierTag, S_PROPERTY, F_PROPERTY_code, E_PROPERTY, F_PROPERTY_qualifierTag, S_COMPRESSED, F_COMPRESSED_code, E_COMPRESSED, F_COMPRESSED_qualifierTag, S_ENCRYPTED, F_ENCRYPTED_code, E_ENCRYPTED, F_ENCRYPTED_qualifierTag, S_FIELD, F_FIELD_code, E_FIELD, F_FIELD_qualifierTag, S_MESSAGE, F_MESSAGE_code, E_MESSAGE, F_MESSAGE_qualifierTag, S_EXTENSION, F_EXTENSION_code, E_EXTENSION, F_EXTENSION_qualifierTag, S_VENDOR_DEFINED, F_VENDOR_DEFINED_code, E_VENDOR_DEFINED, F_VENDOR_DEFINED_qualifierTag⟩ := id K
  refine MetFree.of_bodySF (plainFor_of_name pn3) hisR ?_
  intro p e s m args below meth c s₁ Bd hml0 hP hK
  obtain ⟨rfl, hZ, hh⟩ := hP
  have hx := Bd.exec
  have hby := Bd.bytes
  have hml : c.maxLocals = 6 := hml0
  have hown : s.vm.findClass "com/example/plainwire/plainwire/rfc806/ElementQualifiedPinLaw" = some m.cls := findClass_of_methodNamed Bd.named
  have X0 : Stand p l e room_1 s m #[(.int p0)] below meth c s₁ [] 0 0 := Stand.of_body Bd
  have e0 : s₁.heap = h0 := by rw [← hh, Bd.state]; rfl
  have N0 := Fr.nil n0
  have pre0 : ∀ t, Steps p.tables e below (s₁.setTop (mkF m 0 #[.val (.int p0), .unset, .unset, .unset, .unset, .unset] [])) t → Steps p.tables e below (s₁.setTop (entryFrame m #[(.int p0)] maxLocals)) t := fun t k => castTop (by first | (simp [entryFrame, mkF, argsToLocals, Value.category, maxLocals]; done) | rfl) k
  obtain ⟨_, _, ⟨T1, L1, k1, n1⟩, -, X1, ⟨Lc1, hQ1, l1, y1, z1⟩, st1⟩ := Jvm.LawKit.callS X0 hx (y := (⟨"com/example/plainwire/plainwire/rfc806/ElementQualifiedPinLaw", "pick", "(I)Lcom/example/plainwire/plainwire/rfc806/Element;"⟩ : MethodName)) hown (mvT hZ (hw _ (List.mem_of_getElem? (i := 1) rfl))) (mvT hZ (hw _ (List.mem_of_getElem? (i := 2) rfl))) (mvT hZ (hw _ (List.mem_of_getElem? (i := 3) rfl))) (mvT hZ (hw _ (List.mem_of_getElem? (i := 4) rfl))) (by decide) (backOf (W := 0) (r0 l Z a0 hw [] h0 n0 s_NO_OP s_END_OF_CONSTRUCTOR s_ASCII_STRING s_BOOLEAN s_UNIQUE_ID s_SEQUENCE s_SET s_INTEGER s_PADDING s_PROPERTY_LIST s_DATE s_BIT_STRING t_BIT_STRING_qualifierTag s_PROPERTY s_FIELD t_FIELD_qualifierTag s_COMPRESSED s_ENCRYPTED t_ENCRYPTED_qualifierTag s_MESSAGE t_MESSAGE_qualifierTag s_EXTENSION s_VENDOR_DEFINED K) hZ (hw _ (List.mem_of_getElem? (i := 4) rfl)) (hw _ (List.mem_of_getElem? (i := 3) rfl)) (by decide) (by decide)) (g := (mkF m 9 #[.val (.int p0), .val (.int (0 : Int32)), .unset, .unset, .unset, .unset] [(.int (0 : Int32))])) rfl (by rw [hml]; rfl) (argsL := [(.int (0 : Int32))]) (rest := []) (lenOf pd0 rfl) rfl (by show 2 * 0 + _ ≤ _; exact Nat.le_of_eq rfl) (hb hby at_9) (fun _ _ => ⟨rfl, e0, (by decide : 0 + 0 ≤ _), (by decide : 0 + 0 ≤ _)⟩)
  dsimp only [Pt.U, Pt.locs, Pt.cells, Pt.slots] at X1 l1 y1 z1 st1 hQ1
  subst l1 y1 z1
  obtain ⟨rfl, N1q, e1⟩ := hQ1
  have N1 := Fr.app N0 N1q
  obtain ⟨cq2, kq2, q2a, q2b, q2c⟩ := isOf hZ e1 E_NO_OP
  obtain ⟨_, _, ⟨T2, L2, k2, n2⟩, -, X2, ⟨Lc2, hQ2, l2, y2, z2⟩, st2⟩ := X1.virtualBack hx (y := (⟨"com/example/plainwire/plainwire/rfc806/Element", "qualified", "()Z"⟩ : MethodName)) (z := (⟨"com/example/plainwire/plainwire/rfc806/Element", "qualified", "()Z"⟩ : MethodName)) hown (mvT hZ (hw _ (List.mem_of_getElem? (i := 8) rfl))) (mvT hZ (hw _ (List.mem_of_getElem? (i := 9) rfl))) (notFace_of_selects (args := #[]) (mvT hZ (hw _ (List.mem_of_getElem? (i := 11) rfl)))) (mvT hZ (hw _ (List.mem_of_getElem? (i := 11) rfl))) (mvT hZ (hw _ (List.mem_of_getElem? (i := 10) rfl))) (by decide) (backOf (W := 0) (r1 l Z a0 hw [] h0 n0 s_NO_OP s_END_OF_CONSTRUCTOR s_ASCII_STRING s_BOOLEAN s_UNIQUE_ID s_SEQUENCE s_SET s_INTEGER s_PADDING s_PROPERTY_LIST s_DATE s_BIT_STRING t_BIT_STRING_qualifierTag s_PROPERTY s_FIELD t_FIELD_qualifierTag s_COMPRESSED s_ENCRYPTED t_ENCRYPTED_qualifierTag s_MESSAGE t_MESSAGE_qualifierTag s_EXTENSION s_VENDOR_DEFINED K) hZ (hw _ (List.mem_of_getElem? (i := 12) rfl)) (hw _ (List.mem_of_getElem? (i := 6) rfl)) (by decide) (by decide)) q2a q2c (g := (mkF m 26 #[.val (.int p0), .val (.int (0 : Int32)), .val (.ref s_NO_OP), .val (.int (0 : Int32)), .unset, .unset] [(.ref s_NO_OP)])) rfl (by rw [hml]; rfl) (Steps.refl _) (argsL := []) (rest := []) (lenOf pd1 rfl) rfl (by show 2 * 0 + _ ≤ _; exact Nat.le_of_eq rfl) (hb hby at_26) (fun _ _ => ⟨rfl, e1, (by decide : 0 + 0 ≤ _), (by decide : 0 + 0 ≤ _)⟩)
  dsimp only [Pt.U, Pt.locs, Pt.cells, Pt.slots] at X2 l2 y2 z2 st2 hQ2
  subst l2 y2 z2
  obtain ⟨rfl, N2q, e2⟩ := hQ2
  have N2 := Fr.app N1 N2q
  obtain ⟨cq3, kq3, q3a, q3b, q3c⟩ := isOf hZ e2 E_NO_OP
  obtain ⟨_, _, ⟨T3, L3, k3, n3⟩, -, X3, ⟨Lc3, hQ3, l3, y3, z3⟩, st3⟩ := X2.virtualBack hx (y := (⟨"com/example/plainwire/plainwire/rfc806/Element", "qualifierTag", "()Ljava/lang/String;"⟩ : MethodName)) (z := (⟨"com/example/plainwire/plainwire/rfc806/Element", "qualifierTag", "()Ljava/lang/String;"⟩ : MethodName)) hown (mvT hZ (hw _ (List.mem_of_getElem? (i := 15) rfl))) (mvT hZ (hw _ (List.mem_of_getElem? (i := 16) rfl))) (notFace_of_selects (args := #[]) (mvT hZ (hw _ (List.mem_of_getElem? (i := 18) rfl)))) (mvT hZ (hw _ (List.mem_of_getElem? (i := 18) rfl))) (mvT hZ (hw _ (List.mem_of_getElem? (i := 17) rfl))) (by decide) (backOf (W := 0) (r2 l Z a0 hw [] h0 n0 s_NO_OP s_END_OF_CONSTRUCTOR s_ASCII_STRING s_BOOLEAN s_UNIQUE_ID s_SEQUENCE s_SET s_INTEGER s_PADDING s_PROPERTY_LIST s_DATE s_BIT_STRING t_BIT_STRING_qualifierTag s_PROPERTY s_FIELD t_FIELD_qualifierTag s_COMPRESSED s_ENCRYPTED t_ENCRYPTED_qualifierTag s_MESSAGE t_MESSAGE_qualifierTag s_EXTENSION s_VENDOR_DEFINED K) hZ (hw _ (List.mem_of_getElem? (i := 19) rfl)) (hw _ (List.mem_of_getElem? (i := 6) rfl)) (by decide) (by decide)) q3a q3c (g := (mkF m 32 #[.val (.int p0), .val (.int (0 : Int32)), .val (.ref s_NO_OP), .val (.int (0 : Int32)), .val (.int (0 : Int32)), .unset] [(.ref s_NO_OP)])) rfl (by rw [hml]; rfl) (Steps.refl _) (argsL := []) (rest := []) (lenOf pd2 rfl) rfl (by show 2 * 0 + _ ≤ _; exact Nat.le_of_eq rfl) (hb hby at_32) (fun _ _ => ⟨rfl, e2, (by decide : 0 + 0 ≤ _), (by decide : 0 + 0 ≤ _)⟩)
  dsimp only [Pt.U, Pt.locs, Pt.cells, Pt.slots] at X3 l3 y3 z3 st3 hQ3
  subst l3 y3 z3
  obtain ⟨rfl, N3q, e3⟩ := hQ3
  have N3 := Fr.app N2 N3q
  obtain ⟨fs, hr, hrun, hended, hW, hsame⟩ := X3.leave (v := some (.int (1 : Int32))) (fun h => by rw [Bd.returns] at h; cases h)
  refine ⟨_, _, pre0 _ ?_, hrun, hended, _, _, rfl, ?_, ⟨_, rfl⟩, hW, hsame.mono (by decide) (by decide)⟩
  · show Steps p.tables e below (s₁.setTop (mkF m 0 #[.val (.int p0), .unset, .unset, .unset, .unset, .unset] [])) _
    refine XS.iloadN X0.here hx rfl (hb hby at_0) rfl ?_
    show Steps p.tables e below (s₁.setTop (mkF m 1 #[.val (.int p0), .unset, .unset, .unset, .unset, .unset] [(.int p0)])) _
    refine X0.ldcInt hx hown (mvT hZ (hw _ (List.mem_of_getElem? (i := 0) rfl))) (g := (mkF m 1 #[.val (.int p0), .unset, .unset, .unset, .unset, .unset] [(.int p0)])) rfl (hb hby at_1) _ ?_
    show Steps p.tables e below (s₁.setTop (mkF m 3 #[.val (.int p0), .unset, .unset, .unset, .unset, .unset] [(.int (2147483647 : Int32)), (.int p0)])) _
    refine XS.iand X0.here hx rfl (hb hby at_3) rfl ?_
    show Steps p.tables e below (s₁.setTop (mkF m 4 #[.val (.int p0), .unset, .unset, .unset, .unset, .unset] [(.int (p0 &&& (2147483647 : Int32)))])) _
    refine XS.bipush X0.here hx rfl (hb hby at_4) ?_
    show Steps p.tables e below (s₁.setTop (mkF m 6 #[.val (.int p0), .unset, .unset, .unset, .unset, .unset] [(.int (19 : Int32)), (.int (p0 &&& (2147483647 : Int32)))])) _
    refine Jvm.RoadKit.iremM X0 hx rfl (hb hby at_6) rfl (by decide) ?_
    show Steps p.tables e below (s₁.setTop (mkF m 7 #[.val (.int p0), .unset, .unset, .unset, .unset, .unset] [(.int ((p0 &&& (2147483647 : Int32)) % (19 : Int32)))])) _
    rw [hp0]
    show Steps p.tables e below (s₁.setTop (mkF m 7 #[.val (.int p0), .unset, .unset, .unset, .unset, .unset] [(.int (0 : Int32))])) _
    refine XS.istoreN X0.here hx rfl (hb hby at_7) rfl (l' := #[.val (.int p0), .val (.int (0 : Int32)), .unset, .unset, .unset, .unset]) rfl ?_
    show Steps p.tables e below (s₁.setTop (mkF m 8 #[.val (.int p0), .val (.int (0 : Int32)), .unset, .unset, .unset, .unset] [])) _
    refine XS.iloadN X0.here hx rfl (hb hby at_8) rfl ?_
    show Steps p.tables e below (s₁.setTop (mkF m 9 #[.val (.int p0), .val (.int (0 : Int32)), .unset, .unset, .unset, .unset] [(.int (0 : Int32))])) _
    refine st1 _ ?_
    show Steps p.tables e below (T1.setTop (mkF m 12 #[.val (.int p0), .val (.int (0 : Int32)), .unset, .unset, .unset, .unset] [(.ref s_NO_OP)])) _
    refine XS.astoreN X1.here hx rfl (hb hby at_12) rfl rfl (l' := #[.val (.int p0), .val (.int (0 : Int32)), .val (.ref s_NO_OP), .unset, .unset, .unset]) rfl ?_
    show Steps p.tables e below (T1.setTop (mkF m 13 #[.val (.int p0), .val (.int (0 : Int32)), .val (.ref s_NO_OP), .unset, .unset, .unset] [])) _
    refine XS.iloadN X1.here hx rfl (hb hby at_13) rfl ?_
    show Steps p.tables e below (T1.setTop (mkF m 14 #[.val (.int p0), .val (.int (0 : Int32)), .val (.ref s_NO_OP), .unset, .unset, .unset] [(.int (0 : Int32))])) _
    refine XS.bipush X1.here hx rfl (hb hby at_14) ?_
    show Steps p.tables e below (T1.setTop (mkF m 16 #[.val (.int p0), .val (.int (0 : Int32)), .val (.ref s_NO_OP), .unset, .unset, .unset] [(.int (11 : Int32)), (.int (0 : Int32))])) _
    refine XS.icmpYes X1.here hx rfl (pc0 := 16) (pc' := 23) rfl (hb hby at_16) rfl (by decide +kernel) (by decide) (by decide) ?_
    show Steps p.tables e below (T1.setTop (mkF m 23 #[.val (.int p0), .val (.int (0 : Int32)), .val (.ref s_NO_OP), .unset, .unset, .unset] [])) _
    refine XS.iconst X1.here hx rfl (hb hby at_23) ?_
    show Steps p.tables e below (T1.setTop (mkF m 24 #[.val (.int p0), .val (.int (0 : Int32)), .val (.ref s_NO_OP), .unset, .unset, .unset] [(.int (0 : Int32))])) _
    refine XS.istoreN X1.here hx rfl (hb hby at_24) rfl (l' := #[.val (.int p0), .val (.int (0 : Int32)), .val (.ref s_NO_OP), .val (.int (0 : Int32)), .unset, .unset]) rfl ?_
    show Steps p.tables e below (T1.setTop (mkF m 25 #[.val (.int p0), .val (.int (0 : Int32)), .val (.ref s_NO_OP), .val (.int (0 : Int32)), .unset, .unset] [])) _
    refine XS.aloadN X1.here hx rfl (hb hby at_25) rfl rfl ?_
    show Steps p.tables e below (T1.setTop (mkF m 26 #[.val (.int p0), .val (.int (0 : Int32)), .val (.ref s_NO_OP), .val (.int (0 : Int32)), .unset, .unset] [(.ref s_NO_OP)])) _
    refine st2.trans ?_
    show Steps p.tables e below (T2.setTop (mkF m 29 #[.val (.int p0), .val (.int (0 : Int32)), .val (.ref s_NO_OP), .val (.int (0 : Int32)), .unset, .unset] [(.int (0 : Int32))])) _
    refine XS.istore X2.here hx rfl (hb hby at_29) rfl (l' := #[.val (.int p0), .val (.int (0 : Int32)), .val (.ref s_NO_OP), .val (.int (0 : Int32)), .val (.int (0 : Int32)), .unset]) rfl ?_
    show Steps p.tables e below (T2.setTop (mkF m 31 #[.val (.int p0), .val (.int (0 : Int32)), .val (.ref s_NO_OP), .val (.int (0 : Int32)), .val (.int (0 : Int32)), .unset] [])) _
    refine XS.aloadN X2.here hx rfl (hb hby at_31) rfl rfl ?_
    show Steps p.tables e below (T2.setTop (mkF m 32 #[.val (.int p0), .val (.int (0 : Int32)), .val (.ref s_NO_OP), .val (.int (0 : Int32)), .val (.int (0 : Int32)), .unset] [(.ref s_NO_OP)])) _
    refine st3.trans ?_
    show Steps p.tables e below (T3.setTop (mkF m 35 #[.val (.int p0), .val (.int (0 : Int32)), .val (.ref s_NO_OP), .val (.int (0 : Int32)), .val (.int (0 : Int32)), .unset] [.null])) _
    refine XS.ifnullYes X3.here hx rfl (pc0 := 35) (pc' := 42) rfl (hb hby at_35) rfl (by decide) (by decide) ?_
    show Steps p.tables e below (T3.setTop (mkF m 42 #[.val (.int p0), .val (.int (0 : Int32)), .val (.ref s_NO_OP), .val (.int (0 : Int32)), .val (.int (0 : Int32)), .unset] [])) _
    refine XS.iconst X3.here hx rfl (hb hby at_42) ?_
    show Steps p.tables e below (T3.setTop (mkF m 43 #[.val (.int p0), .val (.int (0 : Int32)), .val (.ref s_NO_OP), .val (.int (0 : Int32)), .val (.int (0 : Int32)), .unset] [(.int (0 : Int32))])) _
    refine XS.istore X3.here hx rfl (hb hby at_43) rfl (l' := #[.val (.int p0), .val (.int (0 : Int32)), .val (.ref s_NO_OP), .val (.int (0 : Int32)), .val (.int (0 : Int32)), .val (.int (0 : Int32))]) rfl ?_
    show Steps p.tables e below (T3.setTop (mkF m 45 #[.val (.int p0), .val (.int (0 : Int32)), .val (.ref s_NO_OP), .val (.int (0 : Int32)), .val (.int (0 : Int32)), .val (.int (0 : Int32))] [])) _
    refine XS.iload X3.here hx rfl (hb hby at_45) rfl ?_
    show Steps p.tables e below (T3.setTop (mkF m 47 #[.val (.int p0), .val (.int (0 : Int32)), .val (.ref s_NO_OP), .val (.int (0 : Int32)), .val (.int (0 : Int32)), .val (.int (0 : Int32))] [(.int (0 : Int32))])) _
    refine XS.iloadN X3.here hx rfl (hb hby at_47) rfl ?_
    show Steps p.tables e below (T3.setTop (mkF m 48 #[.val (.int p0), .val (.int (0 : Int32)), .val (.ref s_NO_OP), .val (.int (0 : Int32)), .val (.int (0 : Int32)), .val (.int (0 : Int32))] [(.int (0 : Int32)), (.int (0 : Int32))])) _
    refine XS.icmpNo X3.here hx rfl (hb hby at_48) rfl (by decide +kernel) ?_
    show Steps p.tables e below (T3.setTop (mkF m 51 #[.val (.int p0), .val (.int (0 : Int32)), .val (.ref s_NO_OP), .val (.int (0 : Int32)), .val (.int (0 : Int32)), .val (.int (0 : Int32))] [])) _
    refine XS.iload X3.here hx rfl (hb hby at_51) rfl ?_
    show Steps p.tables e below (T3.setTop (mkF m 53 #[.val (.int p0), .val (.int (0 : Int32)), .val (.ref s_NO_OP), .val (.int (0 : Int32)), .val (.int (0 : Int32)), .val (.int (0 : Int32))] [(.int (0 : Int32))])) _
    refine XS.iload X3.here hx rfl (hb hby at_53) rfl ?_
    show Steps p.tables e below (T3.setTop (mkF m 55 #[.val (.int p0), .val (.int (0 : Int32)), .val (.ref s_NO_OP), .val (.int (0 : Int32)), .val (.int (0 : Int32)), .val (.int (0 : Int32))] [(.int (0 : Int32)), (.int (0 : Int32))])) _
    refine XS.icmpNo X3.here hx rfl (hb hby at_55) rfl (by decide +kernel) ?_
    show Steps p.tables e below (T3.setTop (mkF m 58 #[.val (.int p0), .val (.int (0 : Int32)), .val (.ref s_NO_OP), .val (.int (0 : Int32)), .val (.int (0 : Int32)), .val (.int (0 : Int32))] [])) _
    refine XS.iconst X3.here hx rfl (hb hby at_58) ?_
    show Steps p.tables e below (T3.setTop (mkF m 59 #[.val (.int p0), .val (.int (0 : Int32)), .val (.ref s_NO_OP), .val (.int (0 : Int32)), .val (.int (0 : Int32)), .val (.int (0 : Int32))] [(.int (1 : Int32))])) _
    refine XS.goto X3.here hx rfl (pc0 := 59) (pc' := 63) rfl (hb hby at_59) (by decide) (by decide) ?_
    show Steps p.tables e below (T3.setTop (mkF m 63 #[.val (.int p0), .val (.int (0 : Int32)), .val (.ref s_NO_OP), .val (.int (0 : Int32)), .val (.int (0 : Int32)), .val (.int (0 : Int32))] [(.int (1 : Int32))])) _
    exact retN X3 hx (t := .boolean) Bd.returns (by simp) (hb hby at_63) hr
  · exact ⟨rfl, N3, e3⟩
set_option maxRecDepth 65536 in
set_option maxHeartbeats 40000000 in
theorem r4 (l : Launch) (Z : State) (a0 : Array Value) (hw : ∀ d ∈ tables_1, d.before a0 Z = true) (ws : List Jvm.Cond) (h0 : Heap) (n0 : Nat) (s_NO_OP : Addr) (s_END_OF_CONSTRUCTOR : Addr) (s_ASCII_STRING : Addr) (s_BOOLEAN : Addr) (s_UNIQUE_ID : Addr) (s_SEQUENCE : Addr) (s_SET : Addr) (s_INTEGER : Addr) (s_PADDING : Addr) (s_PROPERTY_LIST : Addr) (s_DATE : Addr) (s_BIT_STRING : Addr) (t_BIT_STRING_qualifierTag : Addr) (s_PROPERTY : Addr) (s_FIELD : Addr) (t_FIELD_qualifierTag : Addr) (s_COMPRESSED : Addr) (s_ENCRYPTED : Addr) (t_ENCRYPTED_qualifierTag : Addr) (s_MESSAGE : Addr) (t_MESSAGE_qualifierTag : Addr) (s_EXTENSION : Addr) (s_VENDOR_DEFINED : Addr) (K : Ctx Z h0 s_NO_OP s_END_OF_CONSTRUCTOR s_ASCII_STRING s_BOOLEAN s_UNIQUE_ID s_SEQUENCE s_SET s_INTEGER s_PADDING s_PROPERTY_LIST s_DATE s_BIT_STRING t_BIT_STRING_qualifierTag s_PROPERTY s_FIELD t_FIELD_qualifierTag s_COMPRESSED s_ENCRYPTED t_ENCRYPTED_qualifierTag s_MESSAGE t_MESSAGE_qualifierTag s_EXTENSION s_VENDOR_DEFINED) :
    MetFree l (⟨"com/example/plainwire/plainwire/rfc806/ElementQualifiedPinLaw", "pick", "(I)Lcom/example/plainwire/plainwire/rfc806/Element;"⟩ : MethodName) (head1 (Jvm.Cond.code (⟨"com/example/plainwire/plainwire/rfc806/ElementQualifiedPinLaw", "pick", "(I)Lcom/example/plainwire/plainwire/rfc806/Element;"⟩ : MethodName) method_2_code 1 (some (.object "com/example/plainwire/plainwire/rfc806/Element")) :: ws) ({ frames := 0, cells := 0, slots := 0, locals := 0 } : Room)) (fun a U => a = #[(.int (1 : Int32))] ∧ Z.Warmed39 U.vm ∧ U.heap = h0) (fun _ _ _ _ _ => True) (fun _ U o U' => ∃ v L, o = .returned v ∧ QV (.ref s_END_OF_CONSTRUCTOR) h0 n0 v U'.heap L ∧ FrameEnd U o U' L ({ frames := 0, cells := 0, slots := 0, locals := 0 } : Room).cells ({ frames := 0, cells := 0, slots := 0, locals := 0 } : Room).slots) := by
  obtain ⟨S_NO_OP, F_NO_OP_code, E_NO_OP, F_NO_OP_qualifierTag, S_END_OF_CONSTRUCTOR, F_END_OF_CONSTRUCTOR_code, E_END_OF_CONSTRUCTOR, F_END_OF_CONSTRUCTOR_qualifierTag, S_ASCII_STRING, F_ASCII_STRING_code, E_ASCII_STRING, F_ASCII_STRING_qualifierTag, S_BOOLEAN, F_BOOLEAN_code, E_BOOLEAN, F_BOOLEAN_qualifierTag, S_UNIQUE_ID, F_UNIQUE_ID_code, E_UNIQUE_ID, F_UNIQUE_ID_qualifierTag, S_SEQUENCE, F_SEQUENCE_code, E_SEQUENCE, F_SEQUENCE_qualifierTag, S_SET, F_SET_code, E_SET, F_SET_qualifierTag, S_INTEGER, F_INTEGER_code, E_INTEGER, F_INTEGER_qualifierTag, S_PADDING, F_PADDING_code, E_PADDING, F_PADDING_qualifierTag, S_PROPERTY_LIST, F_PROPERTY_LIST_code, E_PROPERTY_LIST, F_PROPERTY_LIST_qualifierTag, S_DATE, F_DATE_code, E_DATE, F_DATE_qualifierTag, S_BIT_STRING, F_BIT_STRING_code, E_BIT_STRING, F_BIT_STRING_qualifierTag, S_PROPERTY, F_PROPERTY_code, E_PROPERTY, F_PROPERTY_qualifierTag, S_COMPRESSED, F_COMPRESSED_code, E_COMPRESSED, F_COMPRESSED_qualifierTag, S_ENCRYPTED, F_ENCRYPTED_code, E_ENCRYPTED, F_ENCRYPTED_qualifierTag, S_FIELD, F_FIELD_code, E_FIELD, F_FIELD_qualifierTag, S_MESSAGE, F_MESSAGE_code, E_MESSAGE, F_MESSAGE_qualifierTag, S_EXTENSION, F_EXTENSION_code, E_EXTENSION, F_EXTENSION_qualifierTag, S_VENDOR_DEFINED, F_VENDOR_DEFINED_code, E_VENDOR_DEFINED, F_VENDOR_DEFINED_qualifierTag⟩ := id K
  refine MetFree.of_bodySF (plainFor_of_name pn0) hisR ?_
  intro p e s m args below meth c s₁ Bd hml0 hP hK
  obtain ⟨rfl, hZ, hh⟩ := hP
  have hx := Bd.exec
  have hby := Bd.bytes
  have hml : c.maxLocals = 1 := hml0
  have hown : s.vm.findClass "com/example/plainwire/plainwire/rfc806/ElementQualifiedPinLaw" = some m.cls := findClass_of_methodNamed Bd.named
  have X0 : Stand p l e ({ frames := 0, cells := 0, slots := 0, locals := 0 } : Room) s m #[(.int (1 : Int32))] below meth c s₁ [] 0 0 := Stand.of_body Bd
  have e0 : s₁.heap = h0 := by rw [← hh, Bd.state]; rfl
  have N0 := Fr.nil n0
  have pre0 : ∀ t, Steps p.tables e below (s₁.setTop (mkF m 0 #[.val (.int (1 : Int32))] [])) t → Steps p.tables e below (s₁.setTop (entryFrame m #[(.int (1 : Int32))] 1)) t := fun t k => castTop (by first | (simp [entryFrame, mkF, argsToLocals, Value.category]; done) | rfl) k
  obtain ⟨T1, X1, e1, st1⟩ := getS X0 hx hZ hown (host := "") (hw _ (List.mem_of_getElem? (i := 40) rfl)) Via.refl e0 S_END_OF_CONSTRUCTOR (g := (mkF m 13 #[.val (.int (1 : Int32))] [])) rfl (hb hby d0_13)
  obtain ⟨fs, hr, hrun, hended, hW, hsame⟩ := X1.leave (v := some (.ref s_END_OF_CONSTRUCTOR)) (fun h => by rw [Bd.returns] at h; cases h)
  refine ⟨_, _, pre0 _ ?_, hrun, hended, _, _, rfl, ?_, ⟨_, rfl⟩, hW, hsame.mono (by decide) (by decide)⟩
  · show Steps p.tables e below (s₁.setTop (mkF m 0 #[.val (.int (1 : Int32))] [])) _
    refine XS.iloadN X0.here hx rfl (hb hby d0_0) rfl ?_
    show Steps p.tables e below (s₁.setTop (mkF m 1 #[.val (.int (1 : Int32))] [(.int (1 : Int32))])) _
    refine XS.ifYes X0.here hx rfl (pc0 := 1) (pc' := 8) rfl (hb hby d0_1) rfl (by decide +kernel) (by decide) (by decide) ?_
    show Steps p.tables e below (s₁.setTop (mkF m 8 #[.val (.int (1 : Int32))] [])) _
    refine XS.iloadN X0.here hx rfl (hb hby d0_8) rfl ?_
    show Steps p.tables e below (s₁.setTop (mkF m 9 #[.val (.int (1 : Int32))] [(.int (1 : Int32))])) _
    refine XS.iconst X0.here hx rfl (hb hby d0_9) ?_
    show Steps p.tables e below (s₁.setTop (mkF m 10 #[.val (.int (1 : Int32))] [(.int (1 : Int32)), (.int (1 : Int32))])) _
    refine XS.icmpNo X0.here hx rfl (hb hby d0_10) rfl (by decide +kernel) ?_
    show Steps p.tables e below (s₁.setTop (mkF m 13 #[.val (.int (1 : Int32))] [])) _
    refine st1 _ ?_
    show Steps p.tables e below (T1.setTop (mkF m 16 #[.val (.int (1 : Int32))] [(.ref s_END_OF_CONSTRUCTOR)])) _
    exact retOut X1 hx (i := .areturn) Bd.returns rfl (Or.inr (Or.inr (Or.inr (Or.inr ⟨rfl, rfl, rfl⟩)))) (hb hby d0_16) hr
  · exact ⟨rfl, N0, e1⟩
set_option maxRecDepth 65536 in
set_option maxHeartbeats 40000000 in
theorem r5 (l : Launch) (Z : State) (a0 : Array Value) (hw : ∀ d ∈ tables_1, d.before a0 Z = true) (ws : List Jvm.Cond) (h0 : Heap) (n0 : Nat) (s_NO_OP : Addr) (s_END_OF_CONSTRUCTOR : Addr) (s_ASCII_STRING : Addr) (s_BOOLEAN : Addr) (s_UNIQUE_ID : Addr) (s_SEQUENCE : Addr) (s_SET : Addr) (s_INTEGER : Addr) (s_PADDING : Addr) (s_PROPERTY_LIST : Addr) (s_DATE : Addr) (s_BIT_STRING : Addr) (t_BIT_STRING_qualifierTag : Addr) (s_PROPERTY : Addr) (s_FIELD : Addr) (t_FIELD_qualifierTag : Addr) (s_COMPRESSED : Addr) (s_ENCRYPTED : Addr) (t_ENCRYPTED_qualifierTag : Addr) (s_MESSAGE : Addr) (t_MESSAGE_qualifierTag : Addr) (s_EXTENSION : Addr) (s_VENDOR_DEFINED : Addr) (K : Ctx Z h0 s_NO_OP s_END_OF_CONSTRUCTOR s_ASCII_STRING s_BOOLEAN s_UNIQUE_ID s_SEQUENCE s_SET s_INTEGER s_PADDING s_PROPERTY_LIST s_DATE s_BIT_STRING t_BIT_STRING_qualifierTag s_PROPERTY s_FIELD t_FIELD_qualifierTag s_COMPRESSED s_ENCRYPTED t_ENCRYPTED_qualifierTag s_MESSAGE t_MESSAGE_qualifierTag s_EXTENSION s_VENDOR_DEFINED) :
    MetFree l (⟨"com/example/plainwire/plainwire/rfc806/Element", "qualified", "()Z"⟩ : MethodName) (head1 (Jvm.Cond.code (⟨"com/example/plainwire/plainwire/rfc806/Element", "qualified", "()Z"⟩ : MethodName) prog_101_method_9_code 1 (some .boolean) :: ws) ({ frames := 0, cells := 0, slots := 0, locals := 0 } : Room)) (fun a U => a = #[(.ref s_END_OF_CONSTRUCTOR)] ∧ Z.Warmed39 U.vm ∧ U.heap = h0) (fun _ _ _ _ _ => True) (fun _ U o U' => ∃ v L, o = .returned v ∧ QV (.int (0 : Int32)) h0 n0 v U'.heap L ∧ FrameEnd U o U' L ({ frames := 0, cells := 0, slots := 0, locals := 0 } : Room).cells ({ frames := 0, cells := 0, slots := 0, locals := 0 } : Room).slots) := by
  obtain ⟨S_NO_OP, F_NO_OP_code, E_NO_OP, F_NO_OP_qualifierTag, S_END_OF_CONSTRUCTOR, F_END_OF_CONSTRUCTOR_code, E_END_OF_CONSTRUCTOR, F_END_OF_CONSTRUCTOR_qualifierTag, S_ASCII_STRING, F_ASCII_STRING_code, E_ASCII_STRING, F_ASCII_STRING_qualifierTag, S_BOOLEAN, F_BOOLEAN_code, E_BOOLEAN, F_BOOLEAN_qualifierTag, S_UNIQUE_ID, F_UNIQUE_ID_code, E_UNIQUE_ID, F_UNIQUE_ID_qualifierTag, S_SEQUENCE, F_SEQUENCE_code, E_SEQUENCE, F_SEQUENCE_qualifierTag, S_SET, F_SET_code, E_SET, F_SET_qualifierTag, S_INTEGER, F_INTEGER_code, E_INTEGER, F_INTEGER_qualifierTag, S_PADDING, F_PADDING_code, E_PADDING, F_PADDING_qualifierTag, S_PROPERTY_LIST, F_PROPERTY_LIST_code, E_PROPERTY_LIST, F_PROPERTY_LIST_qualifierTag, S_DATE, F_DATE_code, E_DATE, F_DATE_qualifierTag, S_BIT_STRING, F_BIT_STRING_code, E_BIT_STRING, F_BIT_STRING_qualifierTag, S_PROPERTY, F_PROPERTY_code, E_PROPERTY, F_PROPERTY_qualifierTag, S_COMPRESSED, F_COMPRESSED_code, E_COMPRESSED, F_COMPRESSED_qualifierTag, S_ENCRYPTED, F_ENCRYPTED_code, E_ENCRYPTED, F_ENCRYPTED_qualifierTag, S_FIELD, F_FIELD_code, E_FIELD, F_FIELD_qualifierTag, S_MESSAGE, F_MESSAGE_code, E_MESSAGE, F_MESSAGE_qualifierTag, S_EXTENSION, F_EXTENSION_code, E_EXTENSION, F_EXTENSION_qualifierTag, S_VENDOR_DEFINED, F_VENDOR_DEFINED_code, E_VENDOR_DEFINED, F_VENDOR_DEFINED_qualifierTag⟩ := id K
  refine MetFree.of_bodySF (plainFor_of_name pn1) hisR ?_
  intro p e s m args below meth c s₁ Bd hml0 hP hK
  obtain ⟨rfl, hZ, hh⟩ := hP
  have hx := Bd.exec
  have hby := Bd.bytes
  have hml : c.maxLocals = 1 := hml0
  have hown : s.vm.findClass "com/example/plainwire/plainwire/rfc806/Element" = some m.cls := findClass_of_methodNamed Bd.named
  have X0 : Stand p l e ({ frames := 0, cells := 0, slots := 0, locals := 0 } : Room) s m #[(.ref s_END_OF_CONSTRUCTOR)] below meth c s₁ [] 0 0 := Stand.of_body Bd
  have e0 : s₁.heap = h0 := by rw [← hh, Bd.state]; rfl
  have N0 := Fr.nil n0
  have pre0 : ∀ t, Steps p.tables e below (s₁.setTop (mkF m 0 #[.val (.ref s_END_OF_CONSTRUCTOR)] [])) t → Steps p.tables e below (s₁.setTop (entryFrame m #[(.ref s_END_OF_CONSTRUCTOR)] 1)) t := fun t k => castTop (by first | (simp [entryFrame, mkF, argsToLocals, Value.category]; done) | rfl) k
  obtain ⟨T1, X1, e1, st1⟩ := getF X0 hx hZ hown (host := "") (Or.inl (hw _ (List.mem_of_getElem? (i := 13) rfl))) Via.refl e0 F_END_OF_CONSTRUCTOR_code (g := (mkF m 1 #[.val (.ref s_END_OF_CONSTRUCTOR)] [(.ref s_END_OF_CONSTRUCTOR)])) rfl rfl (hb hby d1_1)
  obtain ⟨fs, hr, hrun, hended, hW, hsame⟩ := X1.leave (v := some (.int (0 : Int32))) (fun h => by rw [Bd.returns] at h; cases h)
  refine ⟨_, _, pre0 _ ?_, hrun, hended, _, _, rfl, ?_, ⟨_, rfl⟩, hW, hsame.mono (by decide) (by decide)⟩
  · show Steps p.tables e below (s₁.setTop (mkF m 0 #[.val (.ref s_END_OF_CONSTRUCTOR)] [])) _
    refine XS.aloadN X0.here hx rfl (hb hby d1_0) rfl rfl ?_
    show Steps p.tables e below (s₁.setTop (mkF m 1 #[.val (.ref s_END_OF_CONSTRUCTOR)] [(.ref s_END_OF_CONSTRUCTOR)])) _
    refine st1 _ ?_
    show Steps p.tables e below (T1.setTop (mkF m 4 #[.val (.ref s_END_OF_CONSTRUCTOR)] [(.int (1 : Int32))])) _
    refine XS.bipush X1.here hx rfl (hb hby d1_4) ?_
    show Steps p.tables e below (T1.setTop (mkF m 6 #[.val (.ref s_END_OF_CONSTRUCTOR)] [(.int (64 : Int32)), (.int (1 : Int32))])) _
    refine XS.iand X1.here hx rfl (hb hby d1_6) rfl ?_
    show Steps p.tables e below (T1.setTop (mkF m 7 #[.val (.ref s_END_OF_CONSTRUCTOR)] [(.int ((1 : Int32) &&& (64 : Int32)))])) _
    rw [show ((1 : Int32) &&& (64 : Int32)) = (0 : Int32) from by decide +kernel]
    show Steps p.tables e below (T1.setTop (mkF m 7 #[.val (.ref s_END_OF_CONSTRUCTOR)] [(.int (0 : Int32))])) _
    refine XS.ifYes X1.here hx rfl (pc0 := 7) (pc' := 14) rfl (hb hby d1_7) rfl (by decide +kernel) (by decide) (by decide) ?_
    show Steps p.tables e below (T1.setTop (mkF m 14 #[.val (.ref s_END_OF_CONSTRUCTOR)] [])) _
    refine XS.iconst X1.here hx rfl (hb hby d1_14) ?_
    show Steps p.tables e below (T1.setTop (mkF m 15 #[.val (.ref s_END_OF_CONSTRUCTOR)] [(.int (0 : Int32))])) _
    exact retN X1 hx (t := .boolean) Bd.returns (by simp) (hb hby d1_15) hr
  · exact ⟨rfl, N0, e1⟩
set_option maxRecDepth 65536 in
set_option maxHeartbeats 40000000 in
theorem r6 (l : Launch) (Z : State) (a0 : Array Value) (hw : ∀ d ∈ tables_1, d.before a0 Z = true) (ws : List Jvm.Cond) (h0 : Heap) (n0 : Nat) (s_NO_OP : Addr) (s_END_OF_CONSTRUCTOR : Addr) (s_ASCII_STRING : Addr) (s_BOOLEAN : Addr) (s_UNIQUE_ID : Addr) (s_SEQUENCE : Addr) (s_SET : Addr) (s_INTEGER : Addr) (s_PADDING : Addr) (s_PROPERTY_LIST : Addr) (s_DATE : Addr) (s_BIT_STRING : Addr) (t_BIT_STRING_qualifierTag : Addr) (s_PROPERTY : Addr) (s_FIELD : Addr) (t_FIELD_qualifierTag : Addr) (s_COMPRESSED : Addr) (s_ENCRYPTED : Addr) (t_ENCRYPTED_qualifierTag : Addr) (s_MESSAGE : Addr) (t_MESSAGE_qualifierTag : Addr) (s_EXTENSION : Addr) (s_VENDOR_DEFINED : Addr) (K : Ctx Z h0 s_NO_OP s_END_OF_CONSTRUCTOR s_ASCII_STRING s_BOOLEAN s_UNIQUE_ID s_SEQUENCE s_SET s_INTEGER s_PADDING s_PROPERTY_LIST s_DATE s_BIT_STRING t_BIT_STRING_qualifierTag s_PROPERTY s_FIELD t_FIELD_qualifierTag s_COMPRESSED s_ENCRYPTED t_ENCRYPTED_qualifierTag s_MESSAGE t_MESSAGE_qualifierTag s_EXTENSION s_VENDOR_DEFINED) :
    MetFree l (⟨"com/example/plainwire/plainwire/rfc806/Element", "qualifierTag", "()Ljava/lang/String;"⟩ : MethodName) (head1 (Jvm.Cond.code (⟨"com/example/plainwire/plainwire/rfc806/Element", "qualifierTag", "()Ljava/lang/String;"⟩ : MethodName) prog_101_method_10_code 1 (some (.object "java/lang/String")) :: ws) ({ frames := 0, cells := 0, slots := 0, locals := 0 } : Room)) (fun a U => a = #[(.ref s_END_OF_CONSTRUCTOR)] ∧ Z.Warmed39 U.vm ∧ U.heap = h0) (fun _ _ _ _ _ => True) (fun _ U o U' => ∃ v L, o = .returned v ∧ QV .null h0 n0 v U'.heap L ∧ FrameEnd U o U' L ({ frames := 0, cells := 0, slots := 0, locals := 0 } : Room).cells ({ frames := 0, cells := 0, slots := 0, locals := 0 } : Room).slots) := by
  obtain ⟨S_NO_OP, F_NO_OP_code, E_NO_OP, F_NO_OP_qualifierTag, S_END_OF_CONSTRUCTOR, F_END_OF_CONSTRUCTOR_code, E_END_OF_CONSTRUCTOR, F_END_OF_CONSTRUCTOR_qualifierTag, S_ASCII_STRING, F_ASCII_STRING_code, E_ASCII_STRING, F_ASCII_STRING_qualifierTag, S_BOOLEAN, F_BOOLEAN_code, E_BOOLEAN, F_BOOLEAN_qualifierTag, S_UNIQUE_ID, F_UNIQUE_ID_code, E_UNIQUE_ID, F_UNIQUE_ID_qualifierTag, S_SEQUENCE, F_SEQUENCE_code, E_SEQUENCE, F_SEQUENCE_qualifierTag, S_SET, F_SET_code, E_SET, F_SET_qualifierTag, S_INTEGER, F_INTEGER_code, E_INTEGER, F_INTEGER_qualifierTag, S_PADDING, F_PADDING_code, E_PADDING, F_PADDING_qualifierTag, S_PROPERTY_LIST, F_PROPERTY_LIST_code, E_PROPERTY_LIST, F_PROPERTY_LIST_qualifierTag, S_DATE, F_DATE_code, E_DATE, F_DATE_qualifierTag, S_BIT_STRING, F_BIT_STRING_code, E_BIT_STRING, F_BIT_STRING_qualifierTag, S_PROPERTY, F_PROPERTY_code, E_PROPERTY, F_PROPERTY_qualifierTag, S_COMPRESSED, F_COMPRESSED_code, E_COMPRESSED, F_COMPRESSED_qualifierTag, S_ENCRYPTED, F_ENCRYPTED_code, E_ENCRYPTED, F_ENCRYPTED_qualifierTag, S_FIELD, F_FIELD_code, E_FIELD, F_FIELD_qualifierTag, S_MESSAGE, F_MESSAGE_code, E_MESSAGE, F_MESSAGE_qualifierTag, S_EXTENSION, F_EXTENSION_code, E_EXTENSION, F_EXTENSION_qualifierTag, S_VENDOR_DEFINED, F_VENDOR_DEFINED_code, E_VENDOR_DEFINED, F_VENDOR_DEFINED_qualifierTag⟩ := id K
  refine MetFree.of_bodySF (plainFor_of_name pn2) hisR ?_
  intro p e s m args below meth c s₁ Bd hml0 hP hK
  obtain ⟨rfl, hZ, hh⟩ := hP
  have hx := Bd.exec
  have hby := Bd.bytes
  have hml : c.maxLocals = 1 := hml0
  have hown : s.vm.findClass "com/example/plainwire/plainwire/rfc806/Element" = some m.cls := findClass_of_methodNamed Bd.named
  have X0 : Stand p l e ({ frames := 0, cells := 0, slots := 0, locals := 0 } : Room) s m #[(.ref s_END_OF_CONSTRUCTOR)] below meth c s₁ [] 0 0 := Stand.of_body Bd
  have e0 : s₁.heap = h0 := by rw [← hh, Bd.state]; rfl
  have N0 := Fr.nil n0
  have pre0 : ∀ t, Steps p.tables e below (s₁.setTop (mkF m 0 #[.val (.ref s_END_OF_CONSTRUCTOR)] [])) t → Steps p.tables e below (s₁.setTop (entryFrame m #[(.ref s_END_OF_CONSTRUCTOR)] 1)) t := fun t k => castTop (by first | (simp [entryFrame, mkF, argsToLocals, Value.category]; done) | rfl) k
  obtain ⟨T1, X1, e1, st1⟩ := getF X0 hx hZ hown (host := "") (Or.inl (hw _ (List.mem_of_getElem? (i := 20) rfl))) Via.refl e0 F_END_OF_CONSTRUCTOR_qualifierTag (g := (mkF m 1 #[.val (.ref s_END_OF_CONSTRUCTOR)] [(.ref s_END_OF_CONSTRUCTOR)])) rfl rfl (hb hby d2_1)
  obtain ⟨fs, hr, hrun, hended, hW, hsame⟩ := X1.leave (v := some .null) (fun h => by rw [Bd.returns] at h; cases h)
  refine ⟨_, _, pre0 _ ?_, hrun, hended, _, _, rfl, ?_, ⟨_, rfl⟩, hW, hsame.mono (by decide) (by decide)⟩
  · show Steps p.tables e below (s₁.setTop (mkF m 0 #[.val (.ref s_END_OF_CONSTRUCTOR)] [])) _
    refine XS.aloadN X0.here hx rfl (hb hby d2_0) rfl rfl ?_
    show Steps p.tables e below (s₁.setTop (mkF m 1 #[.val (.ref s_END_OF_CONSTRUCTOR)] [(.ref s_END_OF_CONSTRUCTOR)])) _
    refine st1 _ ?_
    show Steps p.tables e below (T1.setTop (mkF m 4 #[.val (.ref s_END_OF_CONSTRUCTOR)] [.null])) _
    exact retOut X1 hx (i := .areturn) Bd.returns rfl (Or.inr (Or.inr (Or.inr (Or.inr ⟨rfl, rfl, rfl⟩)))) (hb hby d2_4) hr
  · exact ⟨rfl, N0, e1⟩
set_option maxRecDepth 65536 in
set_option maxHeartbeats 40000000 in
theorem law_k1 (l : Launch) (Z : State) (a0 : Array Value) (hw : ∀ d ∈ tables_1, d.before a0 Z = true) (ws : List Jvm.Cond) (h0 : Heap) (n0 : Nat) (s_NO_OP : Addr) (s_END_OF_CONSTRUCTOR : Addr) (s_ASCII_STRING : Addr) (s_BOOLEAN : Addr) (s_UNIQUE_ID : Addr) (s_SEQUENCE : Addr) (s_SET : Addr) (s_INTEGER : Addr) (s_PADDING : Addr) (s_PROPERTY_LIST : Addr) (s_DATE : Addr) (s_BIT_STRING : Addr) (t_BIT_STRING_qualifierTag : Addr) (s_PROPERTY : Addr) (s_FIELD : Addr) (t_FIELD_qualifierTag : Addr) (s_COMPRESSED : Addr) (s_ENCRYPTED : Addr) (t_ENCRYPTED_qualifierTag : Addr) (s_MESSAGE : Addr) (t_MESSAGE_qualifierTag : Addr) (s_EXTENSION : Addr) (s_VENDOR_DEFINED : Addr) (K : Ctx Z h0 s_NO_OP s_END_OF_CONSTRUCTOR s_ASCII_STRING s_BOOLEAN s_UNIQUE_ID s_SEQUENCE s_SET s_INTEGER s_PADDING s_PROPERTY_LIST s_DATE s_BIT_STRING t_BIT_STRING_qualifierTag s_PROPERTY s_FIELD t_FIELD_qualifierTag s_COMPRESSED s_ENCRYPTED t_ENCRYPTED_qualifierTag s_MESSAGE t_MESSAGE_qualifierTag s_EXTENSION s_VENDOR_DEFINED) (p0 : Int32) (hp0 : ((p0 &&& (2147483647 : Int32)) % (19 : Int32)) = (1 : Int32)) :
    MetFree l x (head1 (Jvm.Cond.code x code maxLocals ret :: ws) room_1) (fun a U => a = #[(.int p0)] ∧ Z.Warmed39 U.vm ∧ U.heap = h0) (fun _ _ _ _ _ => True) (fun _ U o U' => ∃ v L, o = .returned v ∧ QV (.int (1 : Int32)) h0 n0 v U'.heap L ∧ FrameEnd U o U' L room_1.cells room_1.slots) := by
  obtain ⟨S_NO_OP, F_NO_OP_code, E_NO_OP, F_NO_OP_qualifierTag, S_END_OF_CONSTRUCTOR, F_END_OF_CONSTRUCTOR_code, E_END_OF_CONSTRUCTOR, F_END_OF_CONSTRUCTOR_qualifierTag, S_ASCII_STRING, F_ASCII_STRING_code, E_ASCII_STRING, F_ASCII_STRING_qualifierTag, S_BOOLEAN, F_BOOLEAN_code, E_BOOLEAN, F_BOOLEAN_qualifierTag, S_UNIQUE_ID, F_UNIQUE_ID_code, E_UNIQUE_ID, F_UNIQUE_ID_qualifierTag, S_SEQUENCE, F_SEQUENCE_code, E_SEQUENCE, F_SEQUENCE_qualifierTag, S_SET, F_SET_code, E_SET, F_SET_qualifierTag, S_INTEGER, F_INTEGER_code, E_INTEGER, F_INTEGER_qualifierTag, S_PADDING, F_PADDING_code, E_PADDING, F_PADDING_qualifierTag, S_PROPERTY_LIST, F_PROPERTY_LIST_code, E_PROPERTY_LIST, F_PROPERTY_LIST_qualifierTag, S_DATE, F_DATE_code, E_DATE, F_DATE_qualifierTag, S_BIT_STRING, F_BIT_STRING_code, E_BIT_STRING, F_BIT_STRING_qualifierTag, S_PROPERTY, F_PROPERTY_code, E_PROPERTY, F_PROPERTY_qualifierTag, S_COMPRESSED, F_COMPRESSED_code, E_COMPRESSED, F_COMPRESSED_qualifierTag, S_ENCRYPTED, F_ENCRYPTED_code, E_ENCRYPTED, F_ENCRYPTED_qualifierTag, S_FIELD, F_FIELD_code, E_FIELD, F_FIELD_qualifierTag, S_MESSAGE, F_MESSAGE_code, E_MESSAGE, F_MESSAGE_qualifierTag, S_EXTENSION, F_EXTENSION_code, E_EXTENSION, F_EXTENSION_qualifierTag, S_VENDOR_DEFINED, F_VENDOR_DEFINED_code, E_VENDOR_DEFINED, F_VENDOR_DEFINED_qualifierTag⟩ := id K
  refine MetFree.of_bodySF (plainFor_of_name pn3) hisR ?_
  intro p e s m args below meth c s₁ Bd hml0 hP hK
  obtain ⟨rfl, hZ, hh⟩ := hP
  have hx := Bd.exec
  have hby := Bd.bytes
  have hml : c.maxLocals = 6 := hml0
  have hown : s.vm.findClass "com/example/plainwire/plainwire/rfc806/ElementQualifiedPinLaw" = some m.cls := findClass_of_methodNamed Bd.named
  have X0 : Stand p l e room_1 s m #[(.int p0)] below meth c s₁ [] 0 0 := Stand.of_body Bd
  have e0 : s₁.heap = h0 := by rw [← hh, Bd.state]; rfl
  have N0 := Fr.nil n0
  have pre0 : ∀ t, Steps p.tables e below (s₁.setTop (mkF m 0 #[.val (.int p0), .unset, .unset, .unset, .unset, .unset] [])) t → Steps p.tables e below (s₁.setTop (entryFrame m #[(.int p0)] maxLocals)) t := fun t k => castTop (by first | (simp [entryFrame, mkF, argsToLocals, Value.category, maxLocals]; done) | rfl) k
  obtain ⟨_, _, ⟨T1, L1, k1, n1⟩, -, X1, ⟨Lc1, hQ1, l1, y1, z1⟩, st1⟩ := Jvm.LawKit.callS X0 hx (y := (⟨"com/example/plainwire/plainwire/rfc806/ElementQualifiedPinLaw", "pick", "(I)Lcom/example/plainwire/plainwire/rfc806/Element;"⟩ : MethodName)) hown (mvT hZ (hw _ (List.mem_of_getElem? (i := 1) rfl))) (mvT hZ (hw _ (List.mem_of_getElem? (i := 2) rfl))) (mvT hZ (hw _ (List.mem_of_getElem? (i := 3) rfl))) (mvT hZ (hw _ (List.mem_of_getElem? (i := 4) rfl))) (by decide) (backOf (W := 0) (r4 l Z a0 hw [] h0 n0 s_NO_OP s_END_OF_CONSTRUCTOR s_ASCII_STRING s_BOOLEAN s_UNIQUE_ID s_SEQUENCE s_SET s_INTEGER s_PADDING s_PROPERTY_LIST s_DATE s_BIT_STRING t_BIT_STRING_qualifierTag s_PROPERTY s_FIELD t_FIELD_qualifierTag s_COMPRESSED s_ENCRYPTED t_ENCRYPTED_qualifierTag s_MESSAGE t_MESSAGE_qualifierTag s_EXTENSION s_VENDOR_DEFINED K) hZ (hw _ (List.mem_of_getElem? (i := 4) rfl)) (hw _ (List.mem_of_getElem? (i := 3) rfl)) (by decide) (by decide)) (g := (mkF m 9 #[.val (.int p0), .val (.int (1 : Int32)), .unset, .unset, .unset, .unset] [(.int (1 : Int32))])) rfl (by rw [hml]; rfl) (argsL := [(.int (1 : Int32))]) (rest := []) (lenOf pd0 rfl) rfl (by show 2 * 0 + _ ≤ _; exact Nat.le_of_eq rfl) (hb hby at_9) (fun _ _ => ⟨rfl, e0, (by decide : 0 + 0 ≤ _), (by decide : 0 + 0 ≤ _)⟩)
  dsimp only [Pt.U, Pt.locs, Pt.cells, Pt.slots] at X1 l1 y1 z1 st1 hQ1
  subst l1 y1 z1
  obtain ⟨rfl, N1q, e1⟩ := hQ1
  have N1 := Fr.app N0 N1q
  obtain ⟨cq2, kq2, q2a, q2b, q2c⟩ := isOf hZ e1 E_END_OF_CONSTRUCTOR
  obtain ⟨_, _, ⟨T2, L2, k2, n2⟩, -, X2, ⟨Lc2, hQ2, l2, y2, z2⟩, st2⟩ := X1.virtualBack hx (y := (⟨"com/example/plainwire/plainwire/rfc806/Element", "qualified", "()Z"⟩ : MethodName)) (z := (⟨"com/example/plainwire/plainwire/rfc806/Element", "qualified", "()Z"⟩ : MethodName)) hown (mvT hZ (hw _ (List.mem_of_getElem? (i := 8) rfl))) (mvT hZ (hw _ (List.mem_of_getElem? (i := 9) rfl))) (notFace_of_selects (args := #[]) (mvT hZ (hw _ (List.mem_of_getElem? (i := 11) rfl)))) (mvT hZ (hw _ (List.mem_of_getElem? (i := 11) rfl))) (mvT hZ (hw _ (List.mem_of_getElem? (i := 10) rfl))) (by decide) (backOf (W := 0) (r5 l Z a0 hw [] h0 n0 s_NO_OP s_END_OF_CONSTRUCTOR s_ASCII_STRING s_BOOLEAN s_UNIQUE_ID s_SEQUENCE s_SET s_INTEGER s_PADDING s_PROPERTY_LIST s_DATE s_BIT_STRING t_BIT_STRING_qualifierTag s_PROPERTY s_FIELD t_FIELD_qualifierTag s_COMPRESSED s_ENCRYPTED t_ENCRYPTED_qualifierTag s_MESSAGE t_MESSAGE_qualifierTag s_EXTENSION s_VENDOR_DEFINED K) hZ (hw _ (List.mem_of_getElem? (i := 12) rfl)) (hw _ (List.mem_of_getElem? (i := 6) rfl)) (by decide) (by decide)) q2a q2c (g := (mkF m 26 #[.val (.int p0), .val (.int (1 : Int32)), .val (.ref s_END_OF_CONSTRUCTOR), .val (.int (0 : Int32)), .unset, .unset] [(.ref s_END_OF_CONSTRUCTOR)])) rfl (by rw [hml]; rfl) (Steps.refl _) (argsL := []) (rest := []) (lenOf pd1 rfl) rfl (by show 2 * 0 + _ ≤ _; exact Nat.le_of_eq rfl) (hb hby at_26) (fun _ _ => ⟨rfl, e1, (by decide : 0 + 0 ≤ _), (by decide : 0 + 0 ≤ _)⟩)
  dsimp only [Pt.U, Pt.locs, Pt.cells, Pt.slots] at X2 l2 y2 z2 st2 hQ2
  subst l2 y2 z2
  obtain ⟨rfl, N2q, e2⟩ := hQ2
  have N2 := Fr.app N1 N2q
  obtain ⟨cq3, kq3, q3a, q3b, q3c⟩ := isOf hZ e2 E_END_OF_CONSTRUCTOR
  obtain ⟨_, _, ⟨T3, L3, k3, n3⟩, -, X3, ⟨Lc3, hQ3, l3, y3, z3⟩, st3⟩ := X2.virtualBack hx (y := (⟨"com/example/plainwire/plainwire/rfc806/Element", "qualifierTag", "()Ljava/lang/String;"⟩ : MethodName)) (z := (⟨"com/example/plainwire/plainwire/rfc806/Element", "qualifierTag", "()Ljava/lang/String;"⟩ : MethodName)) hown (mvT hZ (hw _ (List.mem_of_getElem? (i := 15) rfl))) (mvT hZ (hw _ (List.mem_of_getElem? (i := 16) rfl))) (notFace_of_selects (args := #[]) (mvT hZ (hw _ (List.mem_of_getElem? (i := 18) rfl)))) (mvT hZ (hw _ (List.mem_of_getElem? (i := 18) rfl))) (mvT hZ (hw _ (List.mem_of_getElem? (i := 17) rfl))) (by decide) (backOf (W := 0) (r6 l Z a0 hw [] h0 n0 s_NO_OP s_END_OF_CONSTRUCTOR s_ASCII_STRING s_BOOLEAN s_UNIQUE_ID s_SEQUENCE s_SET s_INTEGER s_PADDING s_PROPERTY_LIST s_DATE s_BIT_STRING t_BIT_STRING_qualifierTag s_PROPERTY s_FIELD t_FIELD_qualifierTag s_COMPRESSED s_ENCRYPTED t_ENCRYPTED_qualifierTag s_MESSAGE t_MESSAGE_qualifierTag s_EXTENSION s_VENDOR_DEFINED K) hZ (hw _ (List.mem_of_getElem? (i := 19) rfl)) (hw _ (List.mem_of_getElem? (i := 6) rfl)) (by decide) (by decide)) q3a q3c (g := (mkF m 32 #[.val (.int p0), .val (.int (1 : Int32)), .val (.ref s_END_OF_CONSTRUCTOR), .val (.int (0 : Int32)), .val (.int (0 : Int32)), .unset] [(.ref s_END_OF_CONSTRUCTOR)])) rfl (by rw [hml]; rfl) (Steps.refl _) (argsL := []) (rest := []) (lenOf pd2 rfl) rfl (by show 2 * 0 + _ ≤ _; exact Nat.le_of_eq rfl) (hb hby at_32) (fun _ _ => ⟨rfl, e2, (by decide : 0 + 0 ≤ _), (by decide : 0 + 0 ≤ _)⟩)
  dsimp only [Pt.U, Pt.locs, Pt.cells, Pt.slots] at X3 l3 y3 z3 st3 hQ3
  subst l3 y3 z3
  obtain ⟨rfl, N3q, e3⟩ := hQ3
  have N3 := Fr.app N2 N3q
  obtain ⟨fs, hr, hrun, hended, hW, hsame⟩ := X3.leave (v := some (.int (1 : Int32))) (fun h => by rw [Bd.returns] at h; cases h)
  refine ⟨_, _, pre0 _ ?_, hrun, hended, _, _, rfl, ?_, ⟨_, rfl⟩, hW, hsame.mono (by decide) (by decide)⟩
  · show Steps p.tables e below (s₁.setTop (mkF m 0 #[.val (.int p0), .unset, .unset, .unset, .unset, .unset] [])) _
    refine XS.iloadN X0.here hx rfl (hb hby at_0) rfl ?_
    show Steps p.tables e below (s₁.setTop (mkF m 1 #[.val (.int p0), .unset, .unset, .unset, .unset, .unset] [(.int p0)])) _
    refine X0.ldcInt hx hown (mvT hZ (hw _ (List.mem_of_getElem? (i := 0) rfl))) (g := (mkF m 1 #[.val (.int p0), .unset, .unset, .unset, .unset, .unset] [(.int p0)])) rfl (hb hby at_1) _ ?_
    show Steps p.tables e below (s₁.setTop (mkF m 3 #[.val (.int p0), .unset, .unset, .unset, .unset, .unset] [(.int (2147483647 : Int32)), (.int p0)])) _
    refine XS.iand X0.here hx rfl (hb hby at_3) rfl ?_
    show Steps p.tables e below (s₁.setTop (mkF m 4 #[.val (.int p0), .unset, .unset, .unset, .unset, .unset] [(.int (p0 &&& (2147483647 : Int32)))])) _
    refine XS.bipush X0.here hx rfl (hb hby at_4) ?_
    show Steps p.tables e below (s₁.setTop (mkF m 6 #[.val (.int p0), .unset, .unset, .unset, .unset, .unset] [(.int (19 : Int32)), (.int (p0 &&& (2147483647 : Int32)))])) _
    refine Jvm.RoadKit.iremM X0 hx rfl (hb hby at_6) rfl (by decide) ?_
    show Steps p.tables e below (s₁.setTop (mkF m 7 #[.val (.int p0), .unset, .unset, .unset, .unset, .unset] [(.int ((p0 &&& (2147483647 : Int32)) % (19 : Int32)))])) _
    rw [hp0]
    show Steps p.tables e below (s₁.setTop (mkF m 7 #[.val (.int p0), .unset, .unset, .unset, .unset, .unset] [(.int (1 : Int32))])) _
    refine XS.istoreN X0.here hx rfl (hb hby at_7) rfl (l' := #[.val (.int p0), .val (.int (1 : Int32)), .unset, .unset, .unset, .unset]) rfl ?_
    show Steps p.tables e below (s₁.setTop (mkF m 8 #[.val (.int p0), .val (.int (1 : Int32)), .unset, .unset, .unset, .unset] [])) _
    refine XS.iloadN X0.here hx rfl (hb hby at_8) rfl ?_
    show Steps p.tables e below (s₁.setTop (mkF m 9 #[.val (.int p0), .val (.int (1 : Int32)), .unset, .unset, .unset, .unset] [(.int (1 : Int32))])) _
    refine st1 _ ?_
    show Steps p.tables e below (T1.setTop (mkF m 12 #[.val (.int p0), .val (.int (1 : Int32)), .unset, .unset, .unset, .unset] [(.ref s_END_OF_CONSTRUCTOR)])) _
    refine XS.astoreN X1.here hx rfl (hb hby at_12) rfl rfl (l' := #[.val (.int p0), .val (.int (1 : Int32)), .val (.ref s_END_OF_CONSTRUCTOR), .unset, .unset, .unset]) rfl ?_
    show Steps p.tables e below (T1.setTop (mkF m 13 #[.val (.int p0), .val (.int (1 : Int32)), .val (.ref s_END_OF_CONSTRUCTOR), .unset, .unset, .unset] [])) _
    refine XS.iloadN X1.here hx rfl (hb hby at_13) rfl ?_
    show Steps p.tables e below (T1.setTop (mkF m 14 #[.val (.int p0), .val (.int (1 : Int32)), .val (.ref s_END_OF_CONSTRUCTOR), .unset, .unset, .unset] [(.int (1 : Int32))])) _
    refine XS.bipush X1.here hx rfl (hb hby at_14) ?_
    show Steps p.tables e below (T1.setTop (mkF m 16 #[.val (.int p0), .val (.int (1 : Int32)), .val (.ref s_END_OF_CONSTRUCTOR), .unset, .unset, .unset] [(.int (11 : Int32)), (.int (1 : Int32))])) _
    refine XS.icmpYes X1.here hx rfl (pc0 := 16) (pc' := 23) rfl (hb hby at_16) rfl (by decide +kernel) (by decide) (by decide) ?_
    show Steps p.tables e below (T1.setTop (mkF m 23 #[.val (.int p0), .val (.int (1 : Int32)), .val (.ref s_END_OF_CONSTRUCTOR), .unset, .unset, .unset] [])) _
    refine XS.iconst X1.here hx rfl (hb hby at_23) ?_
    show Steps p.tables e below (T1.setTop (mkF m 24 #[.val (.int p0), .val (.int (1 : Int32)), .val (.ref s_END_OF_CONSTRUCTOR), .unset, .unset, .unset] [(.int (0 : Int32))])) _
    refine XS.istoreN X1.here hx rfl (hb hby at_24) rfl (l' := #[.val (.int p0), .val (.int (1 : Int32)), .val (.ref s_END_OF_CONSTRUCTOR), .val (.int (0 : Int32)), .unset, .unset]) rfl ?_
    show Steps p.tables e below (T1.setTop (mkF m 25 #[.val (.int p0), .val (.int (1 : Int32)), .val (.ref s_END_OF_CONSTRUCTOR), .val (.int (0 : Int32)), .unset, .unset] [])) _
    refine XS.aloadN X1.here hx rfl (hb hby at_25) rfl rfl ?_
    show Steps p.tables e below (T1.setTop (mkF m 26 #[.val (.int p0), .val (.int (1 : Int32)), .val (.ref s_END_OF_CONSTRUCTOR), .val (.int (0 : Int32)), .unset, .unset] [(.ref s_END_OF_CONSTRUCTOR)])) _
    refine st2.trans ?_
    show Steps p.tables e below (T2.setTop (mkF m 29 #[.val (.int p0), .val (.int (1 : Int32)), .val (.ref s_END_OF_CONSTRUCTOR), .val (.int (0 : Int32)), .unset, .unset] [(.int (0 : Int32))])) _
    refine XS.istore X2.here hx rfl (hb hby at_29) rfl (l' := #[.val (.int p0), .val (.int (1 : Int32)), .val (.ref s_END_OF_CONSTRUCTOR), .val (.int (0 : Int32)), .val (.int (0 : Int32)), .unset]) rfl ?_
    show Steps p.tables e below (T2.setTop (mkF m 31 #[.val (.int p0), .val (.int (1 : Int32)), .val (.ref s_END_OF_CONSTRUCTOR), .val (.int (0 : Int32)), .val (.int (0 : Int32)), .unset] [])) _
    refine XS.aloadN X2.here hx rfl (hb hby at_31) rfl rfl ?_
    show Steps p.tables e below (T2.setTop (mkF m 32 #[.val (.int p0), .val (.int (1 : Int32)), .val (.ref s_END_OF_CONSTRUCTOR), .val (.int (0 : Int32)), .val (.int (0 : Int32)), .unset] [(.ref s_END_OF_CONSTRUCTOR)])) _
    refine st3.trans ?_
    show Steps p.tables e below (T3.setTop (mkF m 35 #[.val (.int p0), .val (.int (1 : Int32)), .val (.ref s_END_OF_CONSTRUCTOR), .val (.int (0 : Int32)), .val (.int (0 : Int32)), .unset] [.null])) _
    refine XS.ifnullYes X3.here hx rfl (pc0 := 35) (pc' := 42) rfl (hb hby at_35) rfl (by decide) (by decide) ?_
    show Steps p.tables e below (T3.setTop (mkF m 42 #[.val (.int p0), .val (.int (1 : Int32)), .val (.ref s_END_OF_CONSTRUCTOR), .val (.int (0 : Int32)), .val (.int (0 : Int32)), .unset] [])) _
    refine XS.iconst X3.here hx rfl (hb hby at_42) ?_
    show Steps p.tables e below (T3.setTop (mkF m 43 #[.val (.int p0), .val (.int (1 : Int32)), .val (.ref s_END_OF_CONSTRUCTOR), .val (.int (0 : Int32)), .val (.int (0 : Int32)), .unset] [(.int (0 : Int32))])) _
    refine XS.istore X3.here hx rfl (hb hby at_43) rfl (l' := #[.val (.int p0), .val (.int (1 : Int32)), .val (.ref s_END_OF_CONSTRUCTOR), .val (.int (0 : Int32)), .val (.int (0 : Int32)), .val (.int (0 : Int32))]) rfl ?_
    show Steps p.tables e below (T3.setTop (mkF m 45 #[.val (.int p0), .val (.int (1 : Int32)), .val (.ref s_END_OF_CONSTRUCTOR), .val (.int (0 : Int32)), .val (.int (0 : Int32)), .val (.int (0 : Int32))] [])) _
    refine XS.iload X3.here hx rfl (hb hby at_45) rfl ?_
    show Steps p.tables e below (T3.setTop (mkF m 47 #[.val (.int p0), .val (.int (1 : Int32)), .val (.ref s_END_OF_CONSTRUCTOR), .val (.int (0 : Int32)), .val (.int (0 : Int32)), .val (.int (0 : Int32))] [(.int (0 : Int32))])) _
    refine XS.iloadN X3.here hx rfl (hb hby at_47) rfl ?_
    show Steps p.tables e below (T3.setTop (mkF m 48 #[.val (.int p0), .val (.int (1 : Int32)), .val (.ref s_END_OF_CONSTRUCTOR), .val (.int (0 : Int32)), .val (.int (0 : Int32)), .val (.int (0 : Int32))] [(.int (0 : Int32)), (.int (0 : Int32))])) _
    refine XS.icmpNo X3.here hx rfl (hb hby at_48) rfl (by decide +kernel) ?_
    show Steps p.tables e below (T3.setTop (mkF m 51 #[.val (.int p0), .val (.int (1 : Int32)), .val (.ref s_END_OF_CONSTRUCTOR), .val (.int (0 : Int32)), .val (.int (0 : Int32)), .val (.int (0 : Int32))] [])) _
    refine XS.iload X3.here hx rfl (hb hby at_51) rfl ?_
    show Steps p.tables e below (T3.setTop (mkF m 53 #[.val (.int p0), .val (.int (1 : Int32)), .val (.ref s_END_OF_CONSTRUCTOR), .val (.int (0 : Int32)), .val (.int (0 : Int32)), .val (.int (0 : Int32))] [(.int (0 : Int32))])) _
    refine XS.iload X3.here hx rfl (hb hby at_53) rfl ?_
    show Steps p.tables e below (T3.setTop (mkF m 55 #[.val (.int p0), .val (.int (1 : Int32)), .val (.ref s_END_OF_CONSTRUCTOR), .val (.int (0 : Int32)), .val (.int (0 : Int32)), .val (.int (0 : Int32))] [(.int (0 : Int32)), (.int (0 : Int32))])) _
    refine XS.icmpNo X3.here hx rfl (hb hby at_55) rfl (by decide +kernel) ?_
    show Steps p.tables e below (T3.setTop (mkF m 58 #[.val (.int p0), .val (.int (1 : Int32)), .val (.ref s_END_OF_CONSTRUCTOR), .val (.int (0 : Int32)), .val (.int (0 : Int32)), .val (.int (0 : Int32))] [])) _
    refine XS.iconst X3.here hx rfl (hb hby at_58) ?_
    show Steps p.tables e below (T3.setTop (mkF m 59 #[.val (.int p0), .val (.int (1 : Int32)), .val (.ref s_END_OF_CONSTRUCTOR), .val (.int (0 : Int32)), .val (.int (0 : Int32)), .val (.int (0 : Int32))] [(.int (1 : Int32))])) _
    refine XS.goto X3.here hx rfl (pc0 := 59) (pc' := 63) rfl (hb hby at_59) (by decide) (by decide) ?_
    show Steps p.tables e below (T3.setTop (mkF m 63 #[.val (.int p0), .val (.int (1 : Int32)), .val (.ref s_END_OF_CONSTRUCTOR), .val (.int (0 : Int32)), .val (.int (0 : Int32)), .val (.int (0 : Int32))] [(.int (1 : Int32))])) _
    exact retN X3 hx (t := .boolean) Bd.returns (by simp) (hb hby at_63) hr
  · exact ⟨rfl, N3, e3⟩
set_option maxRecDepth 65536 in
set_option maxHeartbeats 40000000 in
theorem r8 (l : Launch) (Z : State) (a0 : Array Value) (hw : ∀ d ∈ tables_1, d.before a0 Z = true) (ws : List Jvm.Cond) (h0 : Heap) (n0 : Nat) (s_NO_OP : Addr) (s_END_OF_CONSTRUCTOR : Addr) (s_ASCII_STRING : Addr) (s_BOOLEAN : Addr) (s_UNIQUE_ID : Addr) (s_SEQUENCE : Addr) (s_SET : Addr) (s_INTEGER : Addr) (s_PADDING : Addr) (s_PROPERTY_LIST : Addr) (s_DATE : Addr) (s_BIT_STRING : Addr) (t_BIT_STRING_qualifierTag : Addr) (s_PROPERTY : Addr) (s_FIELD : Addr) (t_FIELD_qualifierTag : Addr) (s_COMPRESSED : Addr) (s_ENCRYPTED : Addr) (t_ENCRYPTED_qualifierTag : Addr) (s_MESSAGE : Addr) (t_MESSAGE_qualifierTag : Addr) (s_EXTENSION : Addr) (s_VENDOR_DEFINED : Addr) (K : Ctx Z h0 s_NO_OP s_END_OF_CONSTRUCTOR s_ASCII_STRING s_BOOLEAN s_UNIQUE_ID s_SEQUENCE s_SET s_INTEGER s_PADDING s_PROPERTY_LIST s_DATE s_BIT_STRING t_BIT_STRING_qualifierTag s_PROPERTY s_FIELD t_FIELD_qualifierTag s_COMPRESSED s_ENCRYPTED t_ENCRYPTED_qualifierTag s_MESSAGE t_MESSAGE_qualifierTag s_EXTENSION s_VENDOR_DEFINED) :
    MetFree l (⟨"com/example/plainwire/plainwire/rfc806/ElementQualifiedPinLaw", "pick", "(I)Lcom/example/plainwire/plainwire/rfc806/Element;"⟩ : MethodName) (head1 (Jvm.Cond.code (⟨"com/example/plainwire/plainwire/rfc806/ElementQualifiedPinLaw", "pick", "(I)Lcom/example/plainwire/plainwire/rfc806/Element;"⟩ : MethodName) method_2_code 1 (some (.object "com/example/plainwire/plainwire/rfc806/Element")) :: ws) ({ frames := 0, cells := 0, slots := 0, locals := 0 } : Room)) (fun a U => a = #[(.int (2 : Int32))] ∧ Z.Warmed39 U.vm ∧ U.heap = h0) (fun _ _ _ _ _ => True) (fun _ U o U' => ∃ v L, o = .returned v ∧ QV (.ref s_ASCII_STRING) h0 n0 v U'.heap L ∧ FrameEnd U o U' L ({ frames := 0, cells := 0, slots := 0, locals := 0 } : Room).cells ({ frames := 0, cells := 0, slots := 0, locals := 0 } : Room).slots) := by
  obtain ⟨S_NO_OP, F_NO_OP_code, E_NO_OP, F_NO_OP_qualifierTag, S_END_OF_CONSTRUCTOR, F_END_OF_CONSTRUCTOR_code, E_END_OF_CONSTRUCTOR, F_END_OF_CONSTRUCTOR_qualifierTag, S_ASCII_STRING, F_ASCII_STRING_code, E_ASCII_STRING, F_ASCII_STRING_qualifierTag, S_BOOLEAN, F_BOOLEAN_code, E_BOOLEAN, F_BOOLEAN_qualifierTag, S_UNIQUE_ID, F_UNIQUE_ID_code, E_UNIQUE_ID, F_UNIQUE_ID_qualifierTag, S_SEQUENCE, F_SEQUENCE_code, E_SEQUENCE, F_SEQUENCE_qualifierTag, S_SET, F_SET_code, E_SET, F_SET_qualifierTag, S_INTEGER, F_INTEGER_code, E_INTEGER, F_INTEGER_qualifierTag, S_PADDING, F_PADDING_code, E_PADDING, F_PADDING_qualifierTag, S_PROPERTY_LIST, F_PROPERTY_LIST_code, E_PROPERTY_LIST, F_PROPERTY_LIST_qualifierTag, S_DATE, F_DATE_code, E_DATE, F_DATE_qualifierTag, S_BIT_STRING, F_BIT_STRING_code, E_BIT_STRING, F_BIT_STRING_qualifierTag, S_PROPERTY, F_PROPERTY_code, E_PROPERTY, F_PROPERTY_qualifierTag, S_COMPRESSED, F_COMPRESSED_code, E_COMPRESSED, F_COMPRESSED_qualifierTag, S_ENCRYPTED, F_ENCRYPTED_code, E_ENCRYPTED, F_ENCRYPTED_qualifierTag, S_FIELD, F_FIELD_code, E_FIELD, F_FIELD_qualifierTag, S_MESSAGE, F_MESSAGE_code, E_MESSAGE, F_MESSAGE_qualifierTag, S_EXTENSION, F_EXTENSION_code, E_EXTENSION, F_EXTENSION_qualifierTag, S_VENDOR_DEFINED, F_VENDOR_DEFINED_code, E_VENDOR_DEFINED, F_VENDOR_DEFINED_qualifierTag⟩ := id K
  refine MetFree.of_bodySF (plainFor_of_name pn0) hisR ?_
  intro p e s m args below meth c s₁ Bd hml0 hP hK
  obtain ⟨rfl, hZ, hh⟩ := hP
  have hx := Bd.exec
  have hby := Bd.bytes
  have hml : c.maxLocals = 1 := hml0
  have hown : s.vm.findClass "com/example/plainwire/plainwire/rfc806/ElementQualifiedPinLaw" = some m.cls := findClass_of_methodNamed Bd.named
  have X0 : Stand p l e ({ frames := 0, cells := 0, slots := 0, locals := 0 } : Room) s m #[(.int (2 : Int32))] below meth c s₁ [] 0 0 := Stand.of_body Bd
  have e0 : s₁.heap = h0 := by rw [← hh, Bd.state]; rfl
  have N0 := Fr.nil n0
  have pre0 : ∀ t, Steps p.tables e below (s₁.setTop (mkF m 0 #[.val (.int (2 : Int32))] [])) t → Steps p.tables e below (s₁.setTop (entryFrame m #[(.int (2 : Int32))] 1)) t := fun t k => castTop (by first | (simp [entryFrame, mkF, argsToLocals, Value.category]; done) | rfl) k
  obtain ⟨T1, X1, e1, st1⟩ := getS X0 hx hZ hown (host := "") (hw _ (List.mem_of_getElem? (i := 32) rfl)) Via.refl e0 S_ASCII_STRING (g := (mkF m 22 #[.val (.int (2 : Int32))] [])) rfl (hb hby d0_22)
  obtain ⟨fs, hr, hrun, hended, hW, hsame⟩ := X1.leave (v := some (.ref s_ASCII_STRING)) (fun h => by rw [Bd.returns] at h; cases h)
  refine ⟨_, _, pre0 _ ?_, hrun, hended, _, _, rfl, ?_, ⟨_, rfl⟩, hW, hsame.mono (by decide) (by decide)⟩
  · show Steps p.tables e below (s₁.setTop (mkF m 0 #[.val (.int (2 : Int32))] [])) _
    refine XS.iloadN X0.here hx rfl (hb hby d0_0) rfl ?_
    show Steps p.tables e below (s₁.setTop (mkF m 1 #[.val (.int (2 : Int32))] [(.int (2 : Int32))])) _
    refine XS.ifYes X0.here hx rfl (pc0 := 1) (pc' := 8) rfl (hb hby d0_1) rfl (by decide +kernel) (by decide) (by decide) ?_
    show Steps p.tables e below (s₁.setTop (mkF m 8 #[.val (.int (2 : Int32))] [])) _
    refine XS.iloadN X0.here hx rfl (hb hby d0_8) rfl ?_
    show Steps p.tables e below (s₁.setTop (mkF m 9 #[.val (.int (2 : Int32))] [(.int (2 : Int32))])) _
    refine XS.iconst X0.here hx rfl (hb hby d0_9) ?_
    show Steps p.tables e below (s₁.setTop (mkF m 10 #[.val (.int (2 : Int32))] [(.int (1 : Int32)), (.int (2 : Int32))])) _
    refine XS.icmpYes X0.here hx rfl (pc0 := 10) (pc' := 17) rfl (hb hby d0_10) rfl (by decide +kernel) (by decide) (by decide) ?_
    show Steps p.tables e below (s₁.setTop (mkF m 17 #[.val (.int (2 : Int32))] [])) _
    refine XS.iloadN X0.here hx rfl (hb hby d0_17) rfl ?_
    show Steps p.tables e below (s₁.setTop (mkF m 18 #[.val (.int (2 : Int32))] [(.int (2 : Int32))])) _
    refine XS.iconst X0.here hx rfl (hb hby d0_18) ?_
    show Steps p.tables e below (s₁.setTop (mkF m 19 #[.val (.int (2 : Int32))] [(.int (2 : Int32)), (.int (2 : Int32))])) _
    refine XS.icmpNo X0.here hx rfl (hb hby d0_19) rfl (by decide +kernel) ?_
    show Steps p.tables e below (s₁.setTop (mkF m 22 #[.val (.int (2 : Int32))] [])) _
    refine st1 _ ?_
    show Steps p.tables e below (T1.setTop (mkF m 25 #[.val (.int (2 : Int32))] [(.ref s_ASCII_STRING)])) _
    exact retOut X1 hx (i := .areturn) Bd.returns rfl (Or.inr (Or.inr (Or.inr (Or.inr ⟨rfl, rfl, rfl⟩)))) (hb hby d0_25) hr
  · exact ⟨rfl, N0, e1⟩
set_option maxRecDepth 65536 in
set_option maxHeartbeats 40000000 in
theorem r9 (l : Launch) (Z : State) (a0 : Array Value) (hw : ∀ d ∈ tables_1, d.before a0 Z = true) (ws : List Jvm.Cond) (h0 : Heap) (n0 : Nat) (s_NO_OP : Addr) (s_END_OF_CONSTRUCTOR : Addr) (s_ASCII_STRING : Addr) (s_BOOLEAN : Addr) (s_UNIQUE_ID : Addr) (s_SEQUENCE : Addr) (s_SET : Addr) (s_INTEGER : Addr) (s_PADDING : Addr) (s_PROPERTY_LIST : Addr) (s_DATE : Addr) (s_BIT_STRING : Addr) (t_BIT_STRING_qualifierTag : Addr) (s_PROPERTY : Addr) (s_FIELD : Addr) (t_FIELD_qualifierTag : Addr) (s_COMPRESSED : Addr) (s_ENCRYPTED : Addr) (t_ENCRYPTED_qualifierTag : Addr) (s_MESSAGE : Addr) (t_MESSAGE_qualifierTag : Addr) (s_EXTENSION : Addr) (s_VENDOR_DEFINED : Addr) (K : Ctx Z h0 s_NO_OP s_END_OF_CONSTRUCTOR s_ASCII_STRING s_BOOLEAN s_UNIQUE_ID s_SEQUENCE s_SET s_INTEGER s_PADDING s_PROPERTY_LIST s_DATE s_BIT_STRING t_BIT_STRING_qualifierTag s_PROPERTY s_FIELD t_FIELD_qualifierTag s_COMPRESSED s_ENCRYPTED t_ENCRYPTED_qualifierTag s_MESSAGE t_MESSAGE_qualifierTag s_EXTENSION s_VENDOR_DEFINED) :
    MetFree l (⟨"com/example/plainwire/plainwire/rfc806/Element", "qualified", "()Z"⟩ : MethodName) (head1 (Jvm.Cond.code (⟨"com/example/plainwire/plainwire/rfc806/Element", "qualified", "()Z"⟩ : MethodName) prog_101_method_9_code 1 (some .boolean) :: ws) ({ frames := 0, cells := 0, slots := 0, locals := 0 } : Room)) (fun a U => a = #[(.ref s_ASCII_STRING)] ∧ Z.Warmed39 U.vm ∧ U.heap = h0) (fun _ _ _ _ _ => True) (fun _ U o U' => ∃ v L, o = .returned v ∧ QV (.int (0 : Int32)) h0 n0 v U'.heap L ∧ FrameEnd U o U' L ({ frames := 0, cells := 0, slots := 0, locals := 0 } : Room).cells ({ frames := 0, cells := 0, slots := 0, locals := 0 } : Room).slots) := by
  obtain ⟨S_NO_OP, F_NO_OP_code, E_NO_OP, F_NO_OP_qualifierTag, S_END_OF_CONSTRUCTOR, F_END_OF_CONSTRUCTOR_code, E_END_OF_CONSTRUCTOR, F_END_OF_CONSTRUCTOR_qualifierTag, S_ASCII_STRING, F_ASCII_STRING_code, E_ASCII_STRING, F_ASCII_STRING_qualifierTag, S_BOOLEAN, F_BOOLEAN_code, E_BOOLEAN, F_BOOLEAN_qualifierTag, S_UNIQUE_ID, F_UNIQUE_ID_code, E_UNIQUE_ID, F_UNIQUE_ID_qualifierTag, S_SEQUENCE, F_SEQUENCE_code, E_SEQUENCE, F_SEQUENCE_qualifierTag, S_SET, F_SET_code, E_SET, F_SET_qualifierTag, S_INTEGER, F_INTEGER_code, E_INTEGER, F_INTEGER_qualifierTag, S_PADDING, F_PADDING_code, E_PADDING, F_PADDING_qualifierTag, S_PROPERTY_LIST, F_PROPERTY_LIST_code, E_PROPERTY_LIST, F_PROPERTY_LIST_qualifierTag, S_DATE, F_DATE_code, E_DATE, F_DATE_qualifierTag, S_BIT_STRING, F_BIT_STRING_code, E_BIT_STRING, F_BIT_STRING_qualifierTag, S_PROPERTY, F_PROPERTY_code, E_PROPERTY, F_PROPERTY_qualifierTag, S_COMPRESSED, F_COMPRESSED_code, E_COMPRESSED, F_COMPRESSED_qualifierTag, S_ENCRYPTED, F_ENCRYPTED_code, E_ENCRYPTED, F_ENCRYPTED_qualifierTag, S_FIELD, F_FIELD_code, E_FIELD, F_FIELD_qualifierTag, S_MESSAGE, F_MESSAGE_code, E_MESSAGE, F_MESSAGE_qualifierTag, S_EXTENSION, F_EXTENSION_code, E_EXTENSION, F_EXTENSION_qualifierTag, S_VENDOR_DEFINED, F_VENDOR_DEFINED_code, E_VENDOR_DEFINED, F_VENDOR_DEFINED_qualifierTag⟩ := id K
  refine MetFree.of_bodySF (plainFor_of_name pn1) hisR ?_
  intro p e s m args below meth c s₁ Bd hml0 hP hK
  obtain ⟨rfl, hZ, hh⟩ := hP
  have hx := Bd.exec
  have hby := Bd.bytes
  have hml : c.maxLocals = 1 := hml0
  have hown : s.vm.findClass "com/example/plainwire/plainwire/rfc806/Element" = some m.cls := findClass_of_methodNamed Bd.named
  have X0 : Stand p l e ({ frames := 0, cells := 0, slots := 0, locals := 0 } : Room) s m #[(.ref s_ASCII_STRING)] below meth c s₁ [] 0 0 := Stand.of_body Bd
  have e0 : s₁.heap = h0 := by rw [← hh, Bd.state]; rfl
  have N0 := Fr.nil n0
  have pre0 : ∀ t, Steps p.tables e below (s₁.setTop (mkF m 0 #[.val (.ref s_ASCII_STRING)] [])) t → Steps p.tables e below (s₁.setTop (entryFrame m #[(.ref s_ASCII_STRING)] 1)) t := fun t k => castTop (by first | (simp [entryFrame, mkF, argsToLocals, Value.category]; done) | rfl) k
  obtain ⟨T1, X1, e1, st1⟩ := getF X0 hx hZ hown (host := "") (Or.inl (hw _ (List.mem_of_getElem? (i := 13) rfl))) Via.refl e0 F_ASCII_STRING_code (g := (mkF m 1 #[.val (.ref s_ASCII_STRING)] [(.ref s_ASCII_STRING)])) rfl rfl (hb hby d1_1)
  obtain ⟨fs, hr, hrun, hended, hW, hsame⟩ := X1.leave (v := some (.int (0 : Int32))) (fun h => by rw [Bd.returns] at h; cases h)
  refine ⟨_, _, pre0 _ ?_, hrun, hended, _, _, rfl, ?_, ⟨_, rfl⟩, hW, hsame.mono (by decide) (by decide)⟩
  · show Steps p.tables e below (s₁.setTop (mkF m 0 #[.val (.ref s_ASCII_STRING)] [])) _
    refine XS.aloadN X0.here hx rfl (hb hby d1_0) rfl rfl ?_
    show Steps p.tables e below (s₁.setTop (mkF m 1 #[.val (.ref s_ASCII_STRING)] [(.ref s_ASCII_STRING)])) _
    refine st1 _ ?_
    show Steps p.tables e below (T1.setTop (mkF m 4 #[.val (.ref s_ASCII_STRING)] [(.int (2 : Int32))])) _
    refine XS.bipush X1.here hx rfl (hb hby d1_4) ?_
    show Steps p.tables e below (T1.setTop (mkF m 6 #[.val (.ref s_ASCII_STRING)] [(.int (64 : Int32)), (.int (2 : Int32))])) _
    refine XS.iand X1.here hx rfl (hb hby d1_6) rfl ?_
    show Steps p.tables e below (T1.setTop (mkF m 7 #[.val (.ref s_ASCII_STRING)] [(.int ((2 : Int32) &&& (64 : Int32)))])) _
    rw [show ((2 : Int32) &&& (64 : Int32)) = (0 : Int32) from by decide +kernel]
    show Steps p.tables e below (T1.setTop (mkF m 7 #[.val (.ref s_ASCII_STRING)] [(.int (0 : Int32))])) _
    refine XS.ifYes X1.here hx rfl (pc0 := 7) (pc' := 14) rfl (hb hby d1_7) rfl (by decide +kernel) (by decide) (by decide) ?_
    show Steps p.tables e below (T1.setTop (mkF m 14 #[.val (.ref s_ASCII_STRING)] [])) _
    refine XS.iconst X1.here hx rfl (hb hby d1_14) ?_
    show Steps p.tables e below (T1.setTop (mkF m 15 #[.val (.ref s_ASCII_STRING)] [(.int (0 : Int32))])) _
    exact retN X1 hx (t := .boolean) Bd.returns (by simp) (hb hby d1_15) hr
  · exact ⟨rfl, N0, e1⟩
set_option maxRecDepth 65536 in
set_option maxHeartbeats 40000000 in
theorem r10 (l : Launch) (Z : State) (a0 : Array Value) (hw : ∀ d ∈ tables_1, d.before a0 Z = true) (ws : List Jvm.Cond) (h0 : Heap) (n0 : Nat) (s_NO_OP : Addr) (s_END_OF_CONSTRUCTOR : Addr) (s_ASCII_STRING : Addr) (s_BOOLEAN : Addr) (s_UNIQUE_ID : Addr) (s_SEQUENCE : Addr) (s_SET : Addr) (s_INTEGER : Addr) (s_PADDING : Addr) (s_PROPERTY_LIST : Addr) (s_DATE : Addr) (s_BIT_STRING : Addr) (t_BIT_STRING_qualifierTag : Addr) (s_PROPERTY : Addr) (s_FIELD : Addr) (t_FIELD_qualifierTag : Addr) (s_COMPRESSED : Addr) (s_ENCRYPTED : Addr) (t_ENCRYPTED_qualifierTag : Addr) (s_MESSAGE : Addr) (t_MESSAGE_qualifierTag : Addr) (s_EXTENSION : Addr) (s_VENDOR_DEFINED : Addr) (K : Ctx Z h0 s_NO_OP s_END_OF_CONSTRUCTOR s_ASCII_STRING s_BOOLEAN s_UNIQUE_ID s_SEQUENCE s_SET s_INTEGER s_PADDING s_PROPERTY_LIST s_DATE s_BIT_STRING t_BIT_STRING_qualifierTag s_PROPERTY s_FIELD t_FIELD_qualifierTag s_COMPRESSED s_ENCRYPTED t_ENCRYPTED_qualifierTag s_MESSAGE t_MESSAGE_qualifierTag s_EXTENSION s_VENDOR_DEFINED) :
    MetFree l (⟨"com/example/plainwire/plainwire/rfc806/Element", "qualifierTag", "()Ljava/lang/String;"⟩ : MethodName) (head1 (Jvm.Cond.code (⟨"com/example/plainwire/plainwire/rfc806/Element", "qualifierTag", "()Ljava/lang/String;"⟩ : MethodName) prog_101_method_10_code 1 (some (.object "java/lang/String")) :: ws) ({ frames := 0, cells := 0, slots := 0, locals := 0 } : Room)) (fun a U => a = #[(.ref s_ASCII_STRING)] ∧ Z.Warmed39 U.vm ∧ U.heap = h0) (fun _ _ _ _ _ => True) (fun _ U o U' => ∃ v L, o = .returned v ∧ QV .null h0 n0 v U'.heap L ∧ FrameEnd U o U' L ({ frames := 0, cells := 0, slots := 0, locals := 0 } : Room).cells ({ frames := 0, cells := 0, slots := 0, locals := 0 } : Room).slots) := by
  obtain ⟨S_NO_OP, F_NO_OP_code, E_NO_OP, F_NO_OP_qualifierTag, S_END_OF_CONSTRUCTOR, F_END_OF_CONSTRUCTOR_code, E_END_OF_CONSTRUCTOR, F_END_OF_CONSTRUCTOR_qualifierTag, S_ASCII_STRING, F_ASCII_STRING_code, E_ASCII_STRING, F_ASCII_STRING_qualifierTag, S_BOOLEAN, F_BOOLEAN_code, E_BOOLEAN, F_BOOLEAN_qualifierTag, S_UNIQUE_ID, F_UNIQUE_ID_code, E_UNIQUE_ID, F_UNIQUE_ID_qualifierTag, S_SEQUENCE, F_SEQUENCE_code, E_SEQUENCE, F_SEQUENCE_qualifierTag, S_SET, F_SET_code, E_SET, F_SET_qualifierTag, S_INTEGER, F_INTEGER_code, E_INTEGER, F_INTEGER_qualifierTag, S_PADDING, F_PADDING_code, E_PADDING, F_PADDING_qualifierTag, S_PROPERTY_LIST, F_PROPERTY_LIST_code, E_PROPERTY_LIST, F_PROPERTY_LIST_qualifierTag, S_DATE, F_DATE_code, E_DATE, F_DATE_qualifierTag, S_BIT_STRING, F_BIT_STRING_code, E_BIT_STRING, F_BIT_STRING_qualifierTag, S_PROPERTY, F_PROPERTY_code, E_PROPERTY, F_PROPERTY_qualifierTag, S_COMPRESSED, F_COMPRESSED_code, E_COMPRESSED, F_COMPRESSED_qualifierTag, S_ENCRYPTED, F_ENCRYPTED_code, E_ENCRYPTED, F_ENCRYPTED_qualifierTag, S_FIELD, F_FIELD_code, E_FIELD, F_FIELD_qualifierTag, S_MESSAGE, F_MESSAGE_code, E_MESSAGE, F_MESSAGE_qualifierTag, S_EXTENSION, F_EXTENSION_code, E_EXTENSION, F_EXTENSION_qualifierTag, S_VENDOR_DEFINED, F_VENDOR_DEFINED_code, E_VENDOR_DEFINED, F_VENDOR_DEFINED_qualifierTag⟩ := id K
  refine MetFree.of_bodySF (plainFor_of_name pn2) hisR ?_
  intro p e s m args below meth c s₁ Bd hml0 hP hK
  obtain ⟨rfl, hZ, hh⟩ := hP
  have hx := Bd.exec
  have hby := Bd.bytes
  have hml : c.maxLocals = 1 := hml0
  have hown : s.vm.findClass "com/example/plainwire/plainwire/rfc806/Element" = some m.cls := findClass_of_methodNamed Bd.named
  have X0 : Stand p l e ({ frames := 0, cells := 0, slots := 0, locals := 0 } : Room) s m #[(.ref s_ASCII_STRING)] below meth c s₁ [] 0 0 := Stand.of_body Bd
  have e0 : s₁.heap = h0 := by rw [← hh, Bd.state]; rfl
  have N0 := Fr.nil n0
  have pre0 : ∀ t, Steps p.tables e below (s₁.setTop (mkF m 0 #[.val (.ref s_ASCII_STRING)] [])) t → Steps p.tables e below (s₁.setTop (entryFrame m #[(.ref s_ASCII_STRING)] 1)) t := fun t k => castTop (by first | (simp [entryFrame, mkF, argsToLocals, Value.category]; done) | rfl) k
  obtain ⟨T1, X1, e1, st1⟩ := getF X0 hx hZ hown (host := "") (Or.inl (hw _ (List.mem_of_getElem? (i := 20) rfl))) Via.refl e0 F_ASCII_STRING_qualifierTag (g := (mkF m 1 #[.val (.ref s_ASCII_STRING)] [(.ref s_ASCII_STRING)])) rfl rfl (hb hby d2_1)
  obtain ⟨fs, hr, hrun, hended, hW, hsame⟩ := X1.leave (v := some .null) (fun h => by rw [Bd.returns] at h; cases h)
  refine ⟨_, _, pre0 _ ?_, hrun, hended, _, _, rfl, ?_, ⟨_, rfl⟩, hW, hsame.mono (by decide) (by decide)⟩
  · show Steps p.tables e below (s₁.setTop (mkF m 0 #[.val (.ref s_ASCII_STRING)] [])) _
    refine XS.aloadN X0.here hx rfl (hb hby d2_0) rfl rfl ?_
    show Steps p.tables e below (s₁.setTop (mkF m 1 #[.val (.ref s_ASCII_STRING)] [(.ref s_ASCII_STRING)])) _
    refine st1 _ ?_
    show Steps p.tables e below (T1.setTop (mkF m 4 #[.val (.ref s_ASCII_STRING)] [.null])) _
    exact retOut X1 hx (i := .areturn) Bd.returns rfl (Or.inr (Or.inr (Or.inr (Or.inr ⟨rfl, rfl, rfl⟩)))) (hb hby d2_4) hr
  · exact ⟨rfl, N0, e1⟩
set_option maxRecDepth 65536 in
set_option maxHeartbeats 40000000 in
theorem law_k2 (l : Launch) (Z : State) (a0 : Array Value) (hw : ∀ d ∈ tables_1, d.before a0 Z = true) (ws : List Jvm.Cond) (h0 : Heap) (n0 : Nat) (s_NO_OP : Addr) (s_END_OF_CONSTRUCTOR : Addr) (s_ASCII_STRING : Addr) (s_BOOLEAN : Addr) (s_UNIQUE_ID : Addr) (s_SEQUENCE : Addr) (s_SET : Addr) (s_INTEGER : Addr) (s_PADDING : Addr) (s_PROPERTY_LIST : Addr) (s_DATE : Addr) (s_BIT_STRING : Addr) (t_BIT_STRING_qualifierTag : Addr) (s_PROPERTY : Addr) (s_FIELD : Addr) (t_FIELD_qualifierTag : Addr) (s_COMPRESSED : Addr) (s_ENCRYPTED : Addr) (t_ENCRYPTED_qualifierTag : Addr) (s_MESSAGE : Addr) (t_MESSAGE_qualifierTag : Addr) (s_EXTENSION : Addr) (s_VENDOR_DEFINED : Addr) (K : Ctx Z h0 s_NO_OP s_END_OF_CONSTRUCTOR s_ASCII_STRING s_BOOLEAN s_UNIQUE_ID s_SEQUENCE s_SET s_INTEGER s_PADDING s_PROPERTY_LIST s_DATE s_BIT_STRING t_BIT_STRING_qualifierTag s_PROPERTY s_FIELD t_FIELD_qualifierTag s_COMPRESSED s_ENCRYPTED t_ENCRYPTED_qualifierTag s_MESSAGE t_MESSAGE_qualifierTag s_EXTENSION s_VENDOR_DEFINED) (p0 : Int32) (hp0 : ((p0 &&& (2147483647 : Int32)) % (19 : Int32)) = (2 : Int32)) :
    MetFree l x (head1 (Jvm.Cond.code x code maxLocals ret :: ws) room_1) (fun a U => a = #[(.int p0)] ∧ Z.Warmed39 U.vm ∧ U.heap = h0) (fun _ _ _ _ _ => True) (fun _ U o U' => ∃ v L, o = .returned v ∧ QV (.int (1 : Int32)) h0 n0 v U'.heap L ∧ FrameEnd U o U' L room_1.cells room_1.slots) := by
  obtain ⟨S_NO_OP, F_NO_OP_code, E_NO_OP, F_NO_OP_qualifierTag, S_END_OF_CONSTRUCTOR, F_END_OF_CONSTRUCTOR_code, E_END_OF_CONSTRUCTOR, F_END_OF_CONSTRUCTOR_qualifierTag, S_ASCII_STRING, F_ASCII_STRING_code, E_ASCII_STRING, F_ASCII_STRING_qualifierTag, S_BOOLEAN, F_BOOLEAN_code, E_BOOLEAN, F_BOOLEAN_qualifierTag, S_UNIQUE_ID, F_UNIQUE_ID_code, E_UNIQUE_ID, F_UNIQUE_ID_qualifierTag, S_SEQUENCE, F_SEQUENCE_code, E_SEQUENCE, F_SEQUENCE_qualifierTag, S_SET, F_SET_code, E_SET, F_SET_qualifierTag, S_INTEGER, F_INTEGER_code, E_INTEGER, F_INTEGER_qualifierTag, S_PADDING, F_PADDING_code, E_PADDING, F_PADDING_qualifierTag, S_PROPERTY_LIST, F_PROPERTY_LIST_code, E_PROPERTY_LIST, F_PROPERTY_LIST_qualifierTag, S_DATE, F_DATE_code, E_DATE, F_DATE_qualifierTag, S_BIT_STRING, F_BIT_STRING_code, E_BIT_STRING, F_BIT_STRING_qualifierTag, S_PROPERTY, F_PROPERTY_code, E_PROPERTY, F_PROPERTY_qualifierTag, S_COMPRESSED, F_COMPRESSED_code, E_COMPRESSED, F_COMPRESSED_qualifierTag, S_ENCRYPTED, F_ENCRYPTED_code, E_ENCRYPTED, F_ENCRYPTED_qualifierTag, S_FIELD, F_FIELD_code, E_FIELD, F_FIELD_qualifierTag, S_MESSAGE, F_MESSAGE_code, E_MESSAGE, F_MESSAGE_qualifierTag, S_EXTENSION, F_EXTENSION_code, E_EXTENSION, F_EXTENSION_qualifierTag, S_VENDOR_DEFINED, F_VENDOR_DEFINED_code, E_VENDOR_DEFINED, F_VENDOR_DEFINED_qualifierTag⟩ := id K
  refine MetFree.of_bodySF (plainFor_of_name pn3) hisR ?_
  intro p e s m args below meth c s₁ Bd hml0 hP hK
  obtain ⟨rfl, hZ, hh⟩ := hP
  have hx := Bd.exec
  have hby := Bd.bytes
  have hml : c.maxLocals = 6 := hml0
  have hown : s.vm.findClass "com/example/plainwire/plainwire/rfc806/ElementQualifiedPinLaw" = some m.cls := findClass_of_methodNamed Bd.named
  have X0 : Stand p l e room_1 s m #[(.int p0)] below meth c s₁ [] 0 0 := Stand.of_body Bd
  have e0 : s₁.heap = h0 := by rw [← hh, Bd.state]; rfl
  have N0 := Fr.nil n0
  have pre0 : ∀ t, Steps p.tables e below (s₁.setTop (mkF m 0 #[.val (.int p0), .unset, .unset, .unset, .unset, .unset] [])) t → Steps p.tables e below (s₁.setTop (entryFrame m #[(.int p0)] maxLocals)) t := fun t k => castTop (by first | (simp [entryFrame, mkF, argsToLocals, Value.category, maxLocals]; done) | rfl) k
  obtain ⟨_, _, ⟨T1, L1, k1, n1⟩, -, X1, ⟨Lc1, hQ1, l1, y1, z1⟩, st1⟩ := Jvm.LawKit.callS X0 hx (y := (⟨"com/example/plainwire/plainwire/rfc806/ElementQualifiedPinLaw", "pick", "(I)Lcom/example/plainwire/plainwire/rfc806/Element;"⟩ : MethodName)) hown (mvT hZ (hw _ (List.mem_of_getElem? (i := 1) rfl))) (mvT hZ (hw _ (List.mem_of_getElem? (i := 2) rfl))) (mvT hZ (hw _ (List.mem_of_getElem? (i := 3) rfl))) (mvT hZ (hw _ (List.mem_of_getElem? (i := 4) rfl))) (by decide) (backOf (W := 0) (r8 l Z a0 hw [] h0 n0 s_NO_OP s_END_OF_CONSTRUCTOR s_ASCII_STRING s_BOOLEAN s_UNIQUE_ID s_SEQUENCE s_SET s_INTEGER s_PADDING s_PROPERTY_LIST s_DATE s_BIT_STRING t_BIT_STRING_qualifierTag s_PROPERTY s_FIELD t_FIELD_qualifierTag s_COMPRESSED s_ENCRYPTED t_ENCRYPTED_qualifierTag s_MESSAGE t_MESSAGE_qualifierTag s_EXTENSION s_VENDOR_DEFINED K) hZ (hw _ (List.mem_of_getElem? (i := 4) rfl)) (hw _ (List.mem_of_getElem? (i := 3) rfl)) (by decide) (by decide)) (g := (mkF m 9 #[.val (.int p0), .val (.int (2 : Int32)), .unset, .unset, .unset, .unset] [(.int (2 : Int32))])) rfl (by rw [hml]; rfl) (argsL := [(.int (2 : Int32))]) (rest := []) (lenOf pd0 rfl) rfl (by show 2 * 0 + _ ≤ _; exact Nat.le_of_eq rfl) (hb hby at_9) (fun _ _ => ⟨rfl, e0, (by decide : 0 + 0 ≤ _), (by decide : 0 + 0 ≤ _)⟩)
  dsimp only [Pt.U, Pt.locs, Pt.cells, Pt.slots] at X1 l1 y1 z1 st1 hQ1
  subst l1 y1 z1
  obtain ⟨rfl, N1q, e1⟩ := hQ1
  have N1 := Fr.app N0 N1q
  obtain ⟨cq2, kq2, q2a, q2b, q2c⟩ := isOf hZ e1 E_ASCII_STRING
  obtain ⟨_, _, ⟨T2, L2, k2, n2⟩, -, X2, ⟨Lc2, hQ2, l2, y2, z2⟩, st2⟩ := X1.virtualBack hx (y := (⟨"com/example/plainwire/plainwire/rfc806/Element", "qualified", "()Z"⟩ : MethodName)) (z := (⟨"com/example/plainwire/plainwire/rfc806/Element", "qualified", "()Z"⟩ : MethodName)) hown (mvT hZ (hw _ (List.mem_of_getElem? (i := 8) rfl))) (mvT hZ (hw _ (List.mem_of_getElem? (i := 9) rfl))) (notFace_of_selects (args := #[]) (mvT hZ (hw _ (List.mem_of_getElem? (i := 11) rfl)))) (mvT hZ (hw _ (List.mem_of_getElem? (i := 11) rfl))) (mvT hZ (hw _ (List.mem_of_getElem? (i := 10) rfl))) (by decide) (backOf (W := 0) (r9 l Z a0 hw [] h0 n0 s_NO_OP s_END_OF_CONSTRUCTOR s_ASCII_STRING s_BOOLEAN s_UNIQUE_ID s_SEQUENCE s_SET s_INTEGER s_PADDING s_PROPERTY_LIST s_DATE s_BIT_STRING t_BIT_STRING_qualifierTag s_PROPERTY s_FIELD t_FIELD_qualifierTag s_COMPRESSED s_ENCRYPTED t_ENCRYPTED_qualifierTag s_MESSAGE t_MESSAGE_qualifierTag s_EXTENSION s_VENDOR_DEFINED K) hZ (hw _ (List.mem_of_getElem? (i := 12) rfl)) (hw _ (List.mem_of_getElem? (i := 6) rfl)) (by decide) (by decide)) q2a q2c (g := (mkF m 26 #[.val (.int p0), .val (.int (2 : Int32)), .val (.ref s_ASCII_STRING), .val (.int (0 : Int32)), .unset, .unset] [(.ref s_ASCII_STRING)])) rfl (by rw [hml]; rfl) (Steps.refl _) (argsL := []) (rest := []) (lenOf pd1 rfl) rfl (by show 2 * 0 + _ ≤ _; exact Nat.le_of_eq rfl) (hb hby at_26) (fun _ _ => ⟨rfl, e1, (by decide : 0 + 0 ≤ _), (by decide : 0 + 0 ≤ _)⟩)
  dsimp only [Pt.U, Pt.locs, Pt.cells, Pt.slots] at X2 l2 y2 z2 st2 hQ2
  subst l2 y2 z2
  obtain ⟨rfl, N2q, e2⟩ := hQ2
  have N2 := Fr.app N1 N2q
  obtain ⟨cq3, kq3, q3a, q3b, q3c⟩ := isOf hZ e2 E_ASCII_STRING
  obtain ⟨_, _, ⟨T3, L3, k3, n3⟩, -, X3, ⟨Lc3, hQ3, l3, y3, z3⟩, st3⟩ := X2.virtualBack hx (y := (⟨"com/example/plainwire/plainwire/rfc806/Element", "qualifierTag", "()Ljava/lang/String;"⟩ : MethodName)) (z := (⟨"com/example/plainwire/plainwire/rfc806/Element", "qualifierTag", "()Ljava/lang/String;"⟩ : MethodName)) hown (mvT hZ (hw _ (List.mem_of_getElem? (i := 15) rfl))) (mvT hZ (hw _ (List.mem_of_getElem? (i := 16) rfl))) (notFace_of_selects (args := #[]) (mvT hZ (hw _ (List.mem_of_getElem? (i := 18) rfl)))) (mvT hZ (hw _ (List.mem_of_getElem? (i := 18) rfl))) (mvT hZ (hw _ (List.mem_of_getElem? (i := 17) rfl))) (by decide) (backOf (W := 0) (r10 l Z a0 hw [] h0 n0 s_NO_OP s_END_OF_CONSTRUCTOR s_ASCII_STRING s_BOOLEAN s_UNIQUE_ID s_SEQUENCE s_SET s_INTEGER s_PADDING s_PROPERTY_LIST s_DATE s_BIT_STRING t_BIT_STRING_qualifierTag s_PROPERTY s_FIELD t_FIELD_qualifierTag s_COMPRESSED s_ENCRYPTED t_ENCRYPTED_qualifierTag s_MESSAGE t_MESSAGE_qualifierTag s_EXTENSION s_VENDOR_DEFINED K) hZ (hw _ (List.mem_of_getElem? (i := 19) rfl)) (hw _ (List.mem_of_getElem? (i := 6) rfl)) (by decide) (by decide)) q3a q3c (g := (mkF m 32 #[.val (.int p0), .val (.int (2 : Int32)), .val (.ref s_ASCII_STRING), .val (.int (0 : Int32)), .val (.int (0 : Int32)), .unset] [(.ref s_ASCII_STRING)])) rfl (by rw [hml]; rfl) (Steps.refl _) (argsL := []) (rest := []) (lenOf pd2 rfl) rfl (by show 2 * 0 + _ ≤ _; exact Nat.le_of_eq rfl) (hb hby at_32) (fun _ _ => ⟨rfl, e2, (by decide : 0 + 0 ≤ _), (by decide : 0 + 0 ≤ _)⟩)
  dsimp only [Pt.U, Pt.locs, Pt.cells, Pt.slots] at X3 l3 y3 z3 st3 hQ3
  subst l3 y3 z3
  obtain ⟨rfl, N3q, e3⟩ := hQ3
  have N3 := Fr.app N2 N3q
  obtain ⟨fs, hr, hrun, hended, hW, hsame⟩ := X3.leave (v := some (.int (1 : Int32))) (fun h => by rw [Bd.returns] at h; cases h)
  refine ⟨_, _, pre0 _ ?_, hrun, hended, _, _, rfl, ?_, ⟨_, rfl⟩, hW, hsame.mono (by decide) (by decide)⟩
  · show Steps p.tables e below (s₁.setTop (mkF m 0 #[.val (.int p0), .unset, .unset, .unset, .unset, .unset] [])) _
    refine XS.iloadN X0.here hx rfl (hb hby at_0) rfl ?_
    show Steps p.tables e below (s₁.setTop (mkF m 1 #[.val (.int p0), .unset, .unset, .unset, .unset, .unset] [(.int p0)])) _
    refine X0.ldcInt hx hown (mvT hZ (hw _ (List.mem_of_getElem? (i := 0) rfl))) (g := (mkF m 1 #[.val (.int p0), .unset, .unset, .unset, .unset, .unset] [(.int p0)])) rfl (hb hby at_1) _ ?_
    show Steps p.tables e below (s₁.setTop (mkF m 3 #[.val (.int p0), .unset, .unset, .unset, .unset, .unset] [(.int (2147483647 : Int32)), (.int p0)])) _
    refine XS.iand X0.here hx rfl (hb hby at_3) rfl ?_
    show Steps p.tables e below (s₁.setTop (mkF m 4 #[.val (.int p0), .unset, .unset, .unset, .unset, .unset] [(.int (p0 &&& (2147483647 : Int32)))])) _
    refine XS.bipush X0.here hx rfl (hb hby at_4) ?_
    show Steps p.tables e below (s₁.setTop (mkF m 6 #[.val (.int p0), .unset, .unset, .unset, .unset, .unset] [(.int (19 : Int32)), (.int (p0 &&& (2147483647 : Int32)))])) _
    refine Jvm.RoadKit.iremM X0 hx rfl (hb hby at_6) rfl (by decide) ?_
    show Steps p.tables e below (s₁.setTop (mkF m 7 #[.val (.int p0), .unset, .unset, .unset, .unset, .unset] [(.int ((p0 &&& (2147483647 : Int32)) % (19 : Int32)))])) _
    rw [hp0]
    show Steps p.tables e below (s₁.setTop (mkF m 7 #[.val (.int p0), .unset, .unset, .unset, .unset, .unset] [(.int (2 : Int32))])) _
    refine XS.istoreN X0.here hx rfl (hb hby at_7) rfl (l' := #[.val (.int p0), .val (.int (2 : Int32)), .unset, .unset, .unset, .unset]) rfl ?_
    show Steps p.tables e below (s₁.setTop (mkF m 8 #[.val (.int p0), .val (.int (2 : Int32)), .unset, .unset, .unset, .unset] [])) _
    refine XS.iloadN X0.here hx rfl (hb hby at_8) rfl ?_
    show Steps p.tables e below (s₁.setTop (mkF m 9 #[.val (.int p0), .val (.int (2 : Int32)), .unset, .unset, .unset, .unset] [(.int (2 : Int32))])) _
    refine st1 _ ?_
    show Steps p.tables e below (T1.setTop (mkF m 12 #[.val (.int p0), .val (.int (2 : Int32)), .unset, .unset, .unset, .unset] [(.ref s_ASCII_STRING)])) _
    refine XS.astoreN X1.here hx rfl (hb hby at_12) rfl rfl (l' := #[.val (.int p0), .val (.int (2 : Int32)), .val (.ref s_ASCII_STRING), .unset, .unset, .unset]) rfl ?_
    show Steps p.tables e below (T1.setTop (mkF m 13 #[.val (.int p0), .val (.int (2 : Int32)), .val (.ref s_ASCII_STRING), .unset, .unset, .unset] [])) _
    refine XS.iloadN X1.here hx rfl (hb hby at_13) rfl ?_
    show Steps p.tables e below (T1.setTop (mkF m 14 #[.val (.int p0), .val (.int (2 : Int32)), .val (.ref s_ASCII_STRING), .unset, .unset, .unset] [(.int (2 : Int32))])) _
    refine XS.bipush X1.here hx rfl (hb hby at_14) ?_
    show Steps p.tables e below (T1.setTop (mkF m 16 #[.val (.int p0), .val (.int (2 : Int32)), .val (.ref s_ASCII_STRING), .unset, .unset, .unset] [(.int (11 : Int32)), (.int (2 : Int32))])) _
    refine XS.icmpYes X1.here hx rfl (pc0 := 16) (pc' := 23) rfl (hb hby at_16) rfl (by decide +kernel) (by decide) (by decide) ?_
    show Steps p.tables e below (T1.setTop (mkF m 23 #[.val (.int p0), .val (.int (2 : Int32)), .val (.ref s_ASCII_STRING), .unset, .unset, .unset] [])) _
    refine XS.iconst X1.here hx rfl (hb hby at_23) ?_
    show Steps p.tables e below (T1.setTop (mkF m 24 #[.val (.int p0), .val (.int (2 : Int32)), .val (.ref s_ASCII_STRING), .unset, .unset, .unset] [(.int (0 : Int32))])) _
    refine XS.istoreN X1.here hx rfl (hb hby at_24) rfl (l' := #[.val (.int p0), .val (.int (2 : Int32)), .val (.ref s_ASCII_STRING), .val (.int (0 : Int32)), .unset, .unset]) rfl ?_
    show Steps p.tables e below (T1.setTop (mkF m 25 #[.val (.int p0), .val (.int (2 : Int32)), .val (.ref s_ASCII_STRING), .val (.int (0 : Int32)), .unset, .unset] [])) _
    refine XS.aloadN X1.here hx rfl (hb hby at_25) rfl rfl ?_
    show Steps p.tables e below (T1.setTop (mkF m 26 #[.val (.int p0), .val (.int (2 : Int32)), .val (.ref s_ASCII_STRING), .val (.int (0 : Int32)), .unset, .unset] [(.ref s_ASCII_STRING)])) _
    refine st2.trans ?_
    show Steps p.tables e below (T2.setTop (mkF m 29 #[.val (.int p0), .val (.int (2 : Int32)), .val (.ref s_ASCII_STRING), .val (.int (0 : Int32)), .unset, .unset] [(.int (0 : Int32))])) _
    refine XS.istore X2.here hx rfl (hb hby at_29) rfl (l' := #[.val (.int p0), .val (.int (2 : Int32)), .val (.ref s_ASCII_STRING), .val (.int (0 : Int32)), .val (.int (0 : Int32)), .unset]) rfl ?_
    show Steps p.tables e below (T2.setTop (mkF m 31 #[.val (.int p0), .val (.int (2 : Int32)), .val (.ref s_ASCII_STRING), .val (.int (0 : Int32)), .val (.int (0 : Int32)), .unset] [])) _
    refine XS.aloadN X2.here hx rfl (hb hby at_31) rfl rfl ?_
    show Steps p.tables e below (T2.setTop (mkF m 32 #[.val (.int p0), .val (.int (2 : Int32)), .val (.ref s_ASCII_STRING), .val (.int (0 : Int32)), .val (.int (0 : Int32)), .unset] [(.ref s_ASCII_STRING)])) _
    refine st3.trans ?_
    show Steps p.tables e below (T3.setTop (mkF m 35 #[.val (.int p0), .val (.int (2 : Int32)), .val (.ref s_ASCII_STRING), .val (.int (0 : Int32)), .val (.int (0 : Int32)), .unset] [.null])) _
    refine XS.ifnullYes X3.here hx rfl (pc0 := 35) (pc' := 42) rfl (hb hby at_35) rfl (by decide) (by decide) ?_
    show Steps p.tables e below (T3.setTop (mkF m 42 #[.val (.int p0), .val (.int (2 : Int32)), .val (.ref s_ASCII_STRING), .val (.int (0 : Int32)), .val (.int (0 : Int32)), .unset] [])) _
    refine XS.iconst X3.here hx rfl (hb hby at_42) ?_
    show Steps p.tables e below (T3.setTop (mkF m 43 #[.val (.int p0), .val (.int (2 : Int32)), .val (.ref s_ASCII_STRING), .val (.int (0 : Int32)), .val (.int (0 : Int32)), .unset] [(.int (0 : Int32))])) _
    refine XS.istore X3.here hx rfl (hb hby at_43) rfl (l' := #[.val (.int p0), .val (.int (2 : Int32)), .val (.ref s_ASCII_STRING), .val (.int (0 : Int32)), .val (.int (0 : Int32)), .val (.int (0 : Int32))]) rfl ?_
    show Steps p.tables e below (T3.setTop (mkF m 45 #[.val (.int p0), .val (.int (2 : Int32)), .val (.ref s_ASCII_STRING), .val (.int (0 : Int32)), .val (.int (0 : Int32)), .val (.int (0 : Int32))] [])) _
    refine XS.iload X3.here hx rfl (hb hby at_45) rfl ?_
    show Steps p.tables e below (T3.setTop (mkF m 47 #[.val (.int p0), .val (.int (2 : Int32)), .val (.ref s_ASCII_STRING), .val (.int (0 : Int32)), .val (.int (0 : Int32)), .val (.int (0 : Int32))] [(.int (0 : Int32))])) _
    refine XS.iloadN X3.here hx rfl (hb hby at_47) rfl ?_
    show Steps p.tables e below (T3.setTop (mkF m 48 #[.val (.int p0), .val (.int (2 : Int32)), .val (.ref s_ASCII_STRING), .val (.int (0 : Int32)), .val (.int (0 : Int32)), .val (.int (0 : Int32))] [(.int (0 : Int32)), (.int (0 : Int32))])) _
    refine XS.icmpNo X3.here hx rfl (hb hby at_48) rfl (by decide +kernel) ?_
    show Steps p.tables e below (T3.setTop (mkF m 51 #[.val (.int p0), .val (.int (2 : Int32)), .val (.ref s_ASCII_STRING), .val (.int (0 : Int32)), .val (.int (0 : Int32)), .val (.int (0 : Int32))] [])) _
    refine XS.iload X3.here hx rfl (hb hby at_51) rfl ?_
    show Steps p.tables e below (T3.setTop (mkF m 53 #[.val (.int p0), .val (.int (2 : Int32)), .val (.ref s_ASCII_STRING), .val (.int (0 : Int32)), .val (.int (0 : Int32)), .val (.int (0 : Int32))] [(.int (0 : Int32))])) _
    refine XS.iload X3.here hx rfl (hb hby at_53) rfl ?_
    show Steps p.tables e below (T3.setTop (mkF m 55 #[.val (.int p0), .val (.int (2 : Int32)), .val (.ref s_ASCII_STRING), .val (.int (0 : Int32)), .val (.int (0 : Int32)), .val (.int (0 : Int32))] [(.int (0 : Int32)), (.int (0 : Int32))])) _
    refine XS.icmpNo X3.here hx rfl (hb hby at_55) rfl (by decide +kernel) ?_
    show Steps p.tables e below (T3.setTop (mkF m 58 #[.val (.int p0), .val (.int (2 : Int32)), .val (.ref s_ASCII_STRING), .val (.int (0 : Int32)), .val (.int (0 : Int32)), .val (.int (0 : Int32))] [])) _
    refine XS.iconst X3.here hx rfl (hb hby at_58) ?_
    show Steps p.tables e below (T3.setTop (mkF m 59 #[.val (.int p0), .val (.int (2 : Int32)), .val (.ref s_ASCII_STRING), .val (.int (0 : Int32)), .val (.int (0 : Int32)), .val (.int (0 : Int32))] [(.int (1 : Int32))])) _
    refine XS.goto X3.here hx rfl (pc0 := 59) (pc' := 63) rfl (hb hby at_59) (by decide) (by decide) ?_
    show Steps p.tables e below (T3.setTop (mkF m 63 #[.val (.int p0), .val (.int (2 : Int32)), .val (.ref s_ASCII_STRING), .val (.int (0 : Int32)), .val (.int (0 : Int32)), .val (.int (0 : Int32))] [(.int (1 : Int32))])) _
    exact retN X3 hx (t := .boolean) Bd.returns (by simp) (hb hby at_63) hr
  · exact ⟨rfl, N3, e3⟩
set_option maxRecDepth 65536 in
set_option maxHeartbeats 40000000 in
theorem r12 (l : Launch) (Z : State) (a0 : Array Value) (hw : ∀ d ∈ tables_1, d.before a0 Z = true) (ws : List Jvm.Cond) (h0 : Heap) (n0 : Nat) (s_NO_OP : Addr) (s_END_OF_CONSTRUCTOR : Addr) (s_ASCII_STRING : Addr) (s_BOOLEAN : Addr) (s_UNIQUE_ID : Addr) (s_SEQUENCE : Addr) (s_SET : Addr) (s_INTEGER : Addr) (s_PADDING : Addr) (s_PROPERTY_LIST : Addr) (s_DATE : Addr) (s_BIT_STRING : Addr) (t_BIT_STRING_qualifierTag : Addr) (s_PROPERTY : Addr) (s_FIELD : Addr) (t_FIELD_qualifierTag : Addr) (s_COMPRESSED : Addr) (s_ENCRYPTED : Addr) (t_ENCRYPTED_qualifierTag : Addr) (s_MESSAGE : Addr) (t_MESSAGE_qualifierTag : Addr) (s_EXTENSION : Addr) (s_VENDOR_DEFINED : Addr) (K : Ctx Z h0 s_NO_OP s_END_OF_CONSTRUCTOR s_ASCII_STRING s_BOOLEAN s_UNIQUE_ID s_SEQUENCE s_SET s_INTEGER s_PADDING s_PROPERTY_LIST s_DATE s_BIT_STRING t_BIT_STRING_qualifierTag s_PROPERTY s_FIELD t_FIELD_qualifierTag s_COMPRESSED s_ENCRYPTED t_ENCRYPTED_qualifierTag s_MESSAGE t_MESSAGE_qualifierTag s_EXTENSION s_VENDOR_DEFINED) :
    MetFree l (⟨"com/example/plainwire/plainwire/rfc806/ElementQualifiedPinLaw", "pick", "(I)Lcom/example/plainwire/plainwire/rfc806/Element;"⟩ : MethodName) (head1 (Jvm.Cond.code (⟨"com/example/plainwire/plainwire/rfc806/ElementQualifiedPinLaw", "pick", "(I)Lcom/example/plainwire/plainwire/rfc806/Element;"⟩ : MethodName) method_2_code 1 (some (.object "com/example/plainwire/plainwire/rfc806/Element")) :: ws) ({ frames := 0, cells := 0, slots := 0, locals := 0 } : Room)) (fun a U => a = #[(.int (3 : Int32))] ∧ Z.Warmed39 U.vm ∧ U.heap = h0) (fun _ _ _ _ _ => True) (fun _ U o U' => ∃ v L, o = .returned v ∧ QV (.ref s_BOOLEAN) h0 n0 v U'.heap L ∧ FrameEnd U o U' L ({ frames := 0, cells := 0, slots := 0, locals := 0 } : Room).cells ({ frames := 0, cells := 0, slots := 0, locals := 0 } : Room).slots) := by
  obtain ⟨S_NO_OP, F_NO_OP_code, E_NO_OP, F_NO_OP_qualifierTag, S_END_OF_CONSTRUCTOR, F_END_OF_CONSTRUCTOR_code, E_END_OF_CONSTRUCTOR, F_END_OF_CONSTRUCTOR_qualifierTag, S_ASCII_STRING, F_ASCII_STRING_code, E_ASCII_STRING, F_ASCII_STRING_qualifierTag, S_BOOLEAN, F_BOOLEAN_code, E_BOOLEAN, F_BOOLEAN_qualifierTag, S_UNIQUE_ID, F_UNIQUE_ID_code, E_UNIQUE_ID, F_UNIQUE_ID_qualifierTag, S_SEQUENCE, F_SEQUENCE_code, E_SEQUENCE, F_SEQUENCE_qualifierTag, S_SET, F_SET_code, E_SET, F_SET_qualifierTag, S_INTEGER, F_INTEGER_code, E_INTEGER, F_INTEGER_qualifierTag, S_PADDING, F_PADDING_code, E_PADDING, F_PADDING_qualifierTag, S_PROPERTY_LIST, F_PROPERTY_LIST_code, E_PROPERTY_LIST, F_PROPERTY_LIST_qualifierTag, S_DATE, F_DATE_code, E_DATE, F_DATE_qualifierTag, S_BIT_STRING, F_BIT_STRING_code, E_BIT_STRING, F_BIT_STRING_qualifierTag, S_PROPERTY, F_PROPERTY_code, E_PROPERTY, F_PROPERTY_qualifierTag, S_COMPRESSED, F_COMPRESSED_code, E_COMPRESSED, F_COMPRESSED_qualifierTag, S_ENCRYPTED, F_ENCRYPTED_code, E_ENCRYPTED, F_ENCRYPTED_qualifierTag, S_FIELD, F_FIELD_code, E_FIELD, F_FIELD_qualifierTag, S_MESSAGE, F_MESSAGE_code, E_MESSAGE, F_MESSAGE_qualifierTag, S_EXTENSION, F_EXTENSION_code, E_EXTENSION, F_EXTENSION_qualifierTag, S_VENDOR_DEFINED, F_VENDOR_DEFINED_code, E_VENDOR_DEFINED, F_VENDOR_DEFINED_qualifierTag⟩ := id K
  refine MetFree.of_bodySF (plainFor_of_name pn0) hisR ?_
  intro p e s m args below meth c s₁ Bd hml0 hP hK
  obtain ⟨rfl, hZ, hh⟩ := hP
  have hx := Bd.exec
  have hby := Bd.bytes
  have hml : c.maxLocals = 1 := hml0
  have hown : s.vm.findClass "com/example/plainwire/plainwire/rfc806/ElementQualifiedPinLaw" = some m.cls := findClass_of_methodNamed Bd.named
  have X0 : Stand p l e ({ frames := 0, cells := 0, slots := 0, locals := 0 } : Room) s m #[(.int (3 : Int32))] below meth c s₁ [] 0 0 := Stand.of_body Bd
  have e0 : s₁.heap = h0 := by rw [← hh, Bd.state]; rfl
  have N0 := Fr.nil n0
  have pre0 : ∀ t, Steps p.tables e below (s₁.setTop (mkF m 0 #[.val (.int (3 : Int32))] [])) t → Steps p.tables e below (s₁.setTop (entryFrame m #[(.int (3 : Int32))] 1)) t := fun t k => castTop (by first | (simp [entryFrame, mkF, argsToLocals, Value.category]; done) | rfl) k
  obtain ⟨T1, X1, e1, st1⟩ := getS X0 hx hZ hown (host := "") (hw _ (List.mem_of_getElem? (i := 22) rfl)) Via.refl e0 S_BOOLEAN (g := (mkF m 31 #[.val (.int (3 : Int32))] [])) rfl (hb hby d0_31)
  obtain ⟨fs, hr, hrun, hended, hW, hsame⟩ := X1.leave (v := some (.ref s_BOOLEAN)) (fun h => by rw [Bd.returns] at h; cases h)
  refine ⟨_, _, pre0 _ ?_, hrun, hended, _, _, rfl, ?_, ⟨_, rfl⟩, hW, hsame.mono (by decide) (by decide)⟩
  · show Steps p.tables e below (s₁.setTop (mkF m 0 #[.val (.int (3 : Int32))] [])) _
    refine XS.iloadN X0.here hx rfl (hb hby d0_0) rfl ?_
    show Steps p.tables e below (s₁.setTop (mkF m 1 #[.val (.int (3 : Int32))] [(.int (3 : Int32))])) _
    refine XS.ifYes X0.here hx rfl (pc0 := 1) (pc' := 8) rfl (hb hby d0_1) rfl (by decide +kernel) (by decide) (by decide) ?_
    show Steps p.tables e below (s₁.setTop (mkF m 8 #[.val (.int (3 : Int32))] [])) _
    refine XS.iloadN X0.here hx rfl (hb hby d0_8) rfl ?_
    show Steps p.tables e below (s₁.setTop (mkF m 9 #[.val (.int (3 : Int32))] [(.int (3 : Int32))])) _
    refine XS.iconst X0.here hx rfl (hb hby d0_9) ?_
    show Steps p.tables e below (s₁.setTop (mkF m 10 #[.val (.int (3 : Int32))] [(.int (1 : Int32)), (.int (3 : Int32))])) _
    refine XS.icmpYes X0.here hx rfl (pc0 := 10) (pc' := 17) rfl (hb hby d0_10) rfl (by decide +kernel) (by decide) (by decide) ?_
    show Steps p.tables e below (s₁.setTop (mkF m 17 #[.val (.int (3 : Int32))] [])) _
    refine XS.iloadN X0.here hx rfl (hb hby d0_17) rfl ?_
    show Steps p.tables e below (s₁.setTop (mkF m 18 #[.val (.int (3 : Int32))] [(.int (3 : Int32))])) _
    refine XS.iconst X0.here hx rfl (hb hby d0_18) ?_
    show Steps p.tables e below (s₁.setTop (mkF m 19 #[.val (.int (3 : Int32))] [(.int (2 : Int32)), (.int (3 : Int32))])) _
    refine XS.icmpYes X0.here hx rfl (pc0 := 19) (pc' := 26) rfl (hb hby d0_19) rfl (by decide +kernel) (by decide) (by decide) ?_
    show Steps p.tables e below (s₁.setTop (mkF m 26 #[.val (.int (3 : Int32))] [])) _
    refine XS.iloadN X0.here hx rfl (hb hby d0_26) rfl ?_
    show Steps p.tables e below (s₁.setTop (mkF m 27 #[.val (.int (3 : Int32))] [(.int (3 : Int32))])) _
    refine XS.iconst X0.here hx rfl (hb hby d0_27) ?_
    show Steps p.tables e below (s₁.setTop (mkF m 28 #[.val (.int (3 : Int32))] [(.int (3 : Int32)), (.int (3 : Int32))])) _
    refine XS.icmpNo X0.here hx rfl (hb hby d0_28) rfl (by decide +kernel) ?_
    show Steps p.tables e below (s₁.setTop (mkF m 31 #[.val (.int (3 : Int32))] [])) _
    refine st1 _ ?_
    show Steps p.tables e below (T1.setTop (mkF m 34 #[.val (.int (3 : Int32))] [(.ref s_BOOLEAN)])) _
    exact retOut X1 hx (i := .areturn) Bd.returns rfl (Or.inr (Or.inr (Or.inr (Or.inr ⟨rfl, rfl, rfl⟩)))) (hb hby d0_34) hr
  · exact ⟨rfl, N0, e1⟩
set_option maxRecDepth 65536 in
set_option maxHeartbeats 40000000 in
theorem r13 (l : Launch) (Z : State) (a0 : Array Value) (hw : ∀ d ∈ tables_1, d.before a0 Z = true) (ws : List Jvm.Cond) (h0 : Heap) (n0 : Nat) (s_NO_OP : Addr) (s_END_OF_CONSTRUCTOR : Addr) (s_ASCII_STRING : Addr) (s_BOOLEAN : Addr) (s_UNIQUE_ID : Addr) (s_SEQUENCE : Addr) (s_SET : Addr) (s_INTEGER : Addr) (s_PADDING : Addr) (s_PROPERTY_LIST : Addr) (s_DATE : Addr) (s_BIT_STRING : Addr) (t_BIT_STRING_qualifierTag : Addr) (s_PROPERTY : Addr) (s_FIELD : Addr) (t_FIELD_qualifierTag : Addr) (s_COMPRESSED : Addr) (s_ENCRYPTED : Addr) (t_ENCRYPTED_qualifierTag : Addr) (s_MESSAGE : Addr) (t_MESSAGE_qualifierTag : Addr) (s_EXTENSION : Addr) (s_VENDOR_DEFINED : Addr) (K : Ctx Z h0 s_NO_OP s_END_OF_CONSTRUCTOR s_ASCII_STRING s_BOOLEAN s_UNIQUE_ID s_SEQUENCE s_SET s_INTEGER s_PADDING s_PROPERTY_LIST s_DATE s_BIT_STRING t_BIT_STRING_qualifierTag s_PROPERTY s_FIELD t_FIELD_qualifierTag s_COMPRESSED s_ENCRYPTED t_ENCRYPTED_qualifierTag s_MESSAGE t_MESSAGE_qualifierTag s_EXTENSION s_VENDOR_DEFINED) :
    MetFree l (⟨"com/example/plainwire/plainwire/rfc806/Element", "qualified", "()Z"⟩ : MethodName) (head1 (Jvm.Cond.code (⟨"com/example/plainwire/plainwire/rfc806/Element", "qualified", "()Z"⟩ : MethodName) prog_101_method_9_code 1 (some .boolean) :: ws) ({ frames := 0, cells := 0, slots := 0, locals := 0 } : Room)) (fun a U => a = #[(.ref s_BOOLEAN)] ∧ Z.Warmed39 U.vm ∧ U.heap = h0) (fun _ _ _ _ _ => True) (fun _ U o U' => ∃ v L, o = .returned v ∧ QV (.int (0 : Int32)) h0 n0 v U'.heap L ∧ FrameEnd U o U' L ({ frames := 0, cells := 0, slots := 0, locals := 0 } : Room).cells ({ frames := 0, cells := 0, slots := 0, locals := 0 } : Room).slots) := by
  obtain ⟨S_NO_OP, F_NO_OP_code, E_NO_OP, F_NO_OP_qualifierTag, S_END_OF_CONSTRUCTOR, F_END_OF_CONSTRUCTOR_code, E_END_OF_CONSTRUCTOR, F_END_OF_CONSTRUCTOR_qualifierTag, S_ASCII_STRING, F_ASCII_STRING_code, E_ASCII_STRING, F_ASCII_STRING_qualifierTag, S_BOOLEAN, F_BOOLEAN_code, E_BOOLEAN, F_BOOLEAN_qualifierTag, S_UNIQUE_ID, F_UNIQUE_ID_code, E_UNIQUE_ID, F_UNIQUE_ID_qualifierTag, S_SEQUENCE, F_SEQUENCE_code, E_SEQUENCE, F_SEQUENCE_qualifierTag, S_SET, F_SET_code, E_SET, F_SET_qualifierTag, S_INTEGER, F_INTEGER_code, E_INTEGER, F_INTEGER_qualifierTag, S_PADDING, F_PADDING_code, E_PADDING, F_PADDING_qualifierTag, S_PROPERTY_LIST, F_PROPERTY_LIST_code, E_PROPERTY_LIST, F_PROPERTY_LIST_qualifierTag, S_DATE, F_DATE_code, E_DATE, F_DATE_qualifierTag, S_BIT_STRING, F_BIT_STRING_code, E_BIT_STRING, F_BIT_STRING_qualifierTag, S_PROPERTY, F_PROPERTY_code, E_PROPERTY, F_PROPERTY_qualifierTag, S_COMPRESSED, F_COMPRESSED_code, E_COMPRESSED, F_COMPRESSED_qualifierTag, S_ENCRYPTED, F_ENCRYPTED_code, E_ENCRYPTED, F_ENCRYPTED_qualifierTag, S_FIELD, F_FIELD_code, E_FIELD, F_FIELD_qualifierTag, S_MESSAGE, F_MESSAGE_code, E_MESSAGE, F_MESSAGE_qualifierTag, S_EXTENSION, F_EXTENSION_code, E_EXTENSION, F_EXTENSION_qualifierTag, S_VENDOR_DEFINED, F_VENDOR_DEFINED_code, E_VENDOR_DEFINED, F_VENDOR_DEFINED_qualifierTag⟩ := id K
  refine MetFree.of_bodySF (plainFor_of_name pn1) hisR ?_
  intro p e s m args below meth c s₁ Bd hml0 hP hK
  obtain ⟨rfl, hZ, hh⟩ := hP
  have hx := Bd.exec
  have hby := Bd.bytes
  have hml : c.maxLocals = 1 := hml0
  have hown : s.vm.findClass "com/example/plainwire/plainwire/rfc806/Element" = some m.cls := findClass_of_methodNamed Bd.named
  have X0 : Stand p l e ({ frames := 0, cells := 0, slots := 0, locals := 0 } : Room) s m #[(.ref s_BOOLEAN)] below meth c s₁ [] 0 0 := Stand.of_body Bd
  have e0 : s₁.heap = h0 := by rw [← hh, Bd.state]; rfl
  have N0 := Fr.nil n0
  have pre0 : ∀ t, Steps p.tables e below (s₁.setTop (mkF m 0 #[.val (.ref s_BOOLEAN)] [])) t → Steps p.tables e below (s₁.setTop (entryFrame m #[(.ref s_BOOLEAN)] 1)) t := fun t k => castTop (by first | (simp [entryFrame, mkF, argsToLocals, Value.category]; done) | rfl) k
  obtain ⟨T1, X1, e1, st1⟩ := getF X0 hx hZ hown (host := "") (Or.inl (hw _ (List.mem_of_getElem? (i := 13) rfl))) Via.refl e0 F_BOOLEAN_code (g := (mkF m 1 #[.val (.ref s_BOOLEAN)] [(.ref s_BOOLEAN)])) rfl rfl (hb hby d1_1)
  obtain ⟨fs, hr, hrun, hended, hW, hsame⟩ := X1.leave (v := some (.int (0 : Int32))) (fun h => by rw [Bd.returns] at h; cases h)
  refine ⟨_, _, pre0 _ ?_, hrun, hended, _, _, rfl, ?_, ⟨_, rfl⟩, hW, hsame.mono (by decide) (by decide)⟩
  · show Steps p.tables e below (s₁.setTop (mkF m 0 #[.val (.ref s_BOOLEAN)] [])) _
    refine XS.aloadN X0.here hx rfl (hb hby d1_0) rfl rfl ?_
    show Steps p.tables e below (s₁.setTop (mkF m 1 #[.val (.ref s_BOOLEAN)] [(.ref s_BOOLEAN)])) _
    refine st1 _ ?_
    show Steps p.tables e below (T1.setTop (mkF m 4 #[.val (.ref s_BOOLEAN)] [(.int (8 : Int32))])) _
    refine XS.bipush X1.here hx rfl (hb hby d1_4) ?_
    show Steps p.tables e below (T1.setTop (mkF m 6 #[.val (.ref s_BOOLEAN)] [(.int (64 : Int32)), (.int (8 : Int32))])) _
    refine XS.iand X1.here hx rfl (hb hby d1_6) rfl ?_
    show Steps p.tables e below (T1.setTop (mkF m 7 #[.val (.ref s_BOOLEAN)] [(.int ((8 : Int32) &&& (64 : Int32)))])) _
    rw [show ((8 : Int32) &&& (64 : Int32)) = (0 : Int32) from by decide +kernel]
    show Steps p.tables e below (T1.setTop (mkF m 7 #[.val (.ref s_BOOLEAN)] [(.int (0 : Int32))])) _
    refine XS.ifYes X1.here hx rfl (pc0 := 7) (pc' := 14) rfl (hb hby d1_7) rfl (by decide +kernel) (by decide) (by decide) ?_
    show Steps p.tables e below (T1.setTop (mkF m 14 #[.val (.ref s_BOOLEAN)] [])) _
    refine XS.iconst X1.here hx rfl (hb hby d1_14) ?_
    show Steps p.tables e below (T1.setTop (mkF m 15 #[.val (.ref s_BOOLEAN)] [(.int (0 : Int32))])) _
    exact retN X1 hx (t := .boolean) Bd.returns (by simp) (hb hby d1_15) hr
  · exact ⟨rfl, N0, e1⟩
set_option maxRecDepth 65536 in
set_option maxHeartbeats 40000000 in
theorem r14 (l : Launch) (Z : State) (a0 : Array Value) (hw : ∀ d ∈ tables_1, d.before a0 Z = true) (ws : List Jvm.Cond) (h0 : Heap) (n0 : Nat) (s_NO_OP : Addr) (s_END_OF_CONSTRUCTOR : Addr) (s_ASCII_STRING : Addr) (s_BOOLEAN : Addr) (s_UNIQUE_ID : Addr) (s_SEQUENCE : Addr) (s_SET : Addr) (s_INTEGER : Addr) (s_PADDING : Addr) (s_PROPERTY_LIST : Addr) (s_DATE : Addr) (s_BIT_STRING : Addr) (t_BIT_STRING_qualifierTag : Addr) (s_PROPERTY : Addr) (s_FIELD : Addr) (t_FIELD_qualifierTag : Addr) (s_COMPRESSED : Addr) (s_ENCRYPTED : Addr) (t_ENCRYPTED_qualifierTag : Addr) (s_MESSAGE : Addr) (t_MESSAGE_qualifierTag : Addr) (s_EXTENSION : Addr) (s_VENDOR_DEFINED : Addr) (K : Ctx Z h0 s_NO_OP s_END_OF_CONSTRUCTOR s_ASCII_STRING s_BOOLEAN s_UNIQUE_ID s_SEQUENCE s_SET s_INTEGER s_PADDING s_PROPERTY_LIST s_DATE s_BIT_STRING t_BIT_STRING_qualifierTag s_PROPERTY s_FIELD t_FIELD_qualifierTag s_COMPRESSED s_ENCRYPTED t_ENCRYPTED_qualifierTag s_MESSAGE t_MESSAGE_qualifierTag s_EXTENSION s_VENDOR_DEFINED) :
    MetFree l (⟨"com/example/plainwire/plainwire/rfc806/Element", "qualifierTag", "()Ljava/lang/String;"⟩ : MethodName) (head1 (Jvm.Cond.code (⟨"com/example/plainwire/plainwire/rfc806/Element", "qualifierTag", "()Ljava/lang/String;"⟩ : MethodName) prog_101_method_10_code 1 (some (.object "java/lang/String")) :: ws) ({ frames := 0, cells := 0, slots := 0, locals := 0 } : Room)) (fun a U => a = #[(.ref s_BOOLEAN)] ∧ Z.Warmed39 U.vm ∧ U.heap = h0) (fun _ _ _ _ _ => True) (fun _ U o U' => ∃ v L, o = .returned v ∧ QV .null h0 n0 v U'.heap L ∧ FrameEnd U o U' L ({ frames := 0, cells := 0, slots := 0, locals := 0 } : Room).cells ({ frames := 0, cells := 0, slots := 0, locals := 0 } : Room).slots) := by
  obtain ⟨S_NO_OP, F_NO_OP_code, E_NO_OP, F_NO_OP_qualifierTag, S_END_OF_CONSTRUCTOR, F_END_OF_CONSTRUCTOR_code, E_END_OF_CONSTRUCTOR, F_END_OF_CONSTRUCTOR_qualifierTag, S_ASCII_STRING, F_ASCII_STRING_code, E_ASCII_STRING, F_ASCII_STRING_qualifierTag, S_BOOLEAN, F_BOOLEAN_code, E_BOOLEAN, F_BOOLEAN_qualifierTag, S_UNIQUE_ID, F_UNIQUE_ID_code, E_UNIQUE_ID, F_UNIQUE_ID_qualifierTag, S_SEQUENCE, F_SEQUENCE_code, E_SEQUENCE, F_SEQUENCE_qualifierTag, S_SET, F_SET_code, E_SET, F_SET_qualifierTag, S_INTEGER, F_INTEGER_code, E_INTEGER, F_INTEGER_qualifierTag, S_PADDING, F_PADDING_code, E_PADDING, F_PADDING_qualifierTag, S_PROPERTY_LIST, F_PROPERTY_LIST_code, E_PROPERTY_LIST, F_PROPERTY_LIST_qualifierTag, S_DATE, F_DATE_code, E_DATE, F_DATE_qualifierTag, S_BIT_STRING, F_BIT_STRING_code, E_BIT_STRING, F_BIT_STRING_qualifierTag, S_PROPERTY, F_PROPERTY_code, E_PROPERTY, F_PROPERTY_qualifierTag, S_COMPRESSED, F_COMPRESSED_code, E_COMPRESSED, F_COMPRESSED_qualifierTag, S_ENCRYPTED, F_ENCRYPTED_code, E_ENCRYPTED, F_ENCRYPTED_qualifierTag, S_FIELD, F_FIELD_code, E_FIELD, F_FIELD_qualifierTag, S_MESSAGE, F_MESSAGE_code, E_MESSAGE, F_MESSAGE_qualifierTag, S_EXTENSION, F_EXTENSION_code, E_EXTENSION, F_EXTENSION_qualifierTag, S_VENDOR_DEFINED, F_VENDOR_DEFINED_code, E_VENDOR_DEFINED, F_VENDOR_DEFINED_qualifierTag⟩ := id K
  refine MetFree.of_bodySF (plainFor_of_name pn2) hisR ?_
  intro p e s m args below meth c s₁ Bd hml0 hP hK
  obtain ⟨rfl, hZ, hh⟩ := hP
  have hx := Bd.exec
  have hby := Bd.bytes
  have hml : c.maxLocals = 1 := hml0
  have hown : s.vm.findClass "com/example/plainwire/plainwire/rfc806/Element" = some m.cls := findClass_of_methodNamed Bd.named
  have X0 : Stand p l e ({ frames := 0, cells := 0, slots := 0, locals := 0 } : Room) s m #[(.ref s_BOOLEAN)] below meth c s₁ [] 0 0 := Stand.of_body Bd
  have e0 : s₁.heap = h0 := by rw [← hh, Bd.state]; rfl
  have N0 := Fr.nil n0
  have pre0 : ∀ t, Steps p.tables e below (s₁.setTop (mkF m 0 #[.val (.ref s_BOOLEAN)] [])) t → Steps p.tables e below (s₁.setTop (entryFrame m #[(.ref s_BOOLEAN)] 1)) t := fun t k => castTop (by first | (simp [entryFrame, mkF, argsToLocals, Value.category]; done) | rfl) k
  obtain ⟨T1, X1, e1, st1⟩ := getF X0 hx hZ hown (host := "") (Or.inl (hw _ (List.mem_of_getElem? (i := 20) rfl))) Via.refl e0 F_BOOLEAN_qualifierTag (g := (mkF m 1 #[.val (.ref s_BOOLEAN)] [(.ref s_BOOLEAN)])) rfl rfl (hb hby d2_1)
  obtain ⟨fs, hr, hrun, hended, hW, hsame⟩ := X1.leave (v := some .null) (fun h => by rw [Bd.returns] at h; cases h)
  refine ⟨_, _, pre0 _ ?_, hrun, hended, _, _, rfl, ?_, ⟨_, rfl⟩, hW, hsame.mono (by decide) (by decide)⟩
  · show Steps p.tables e below (s₁.setTop (mkF m 0 #[.val (.ref s_BOOLEAN)] [])) _
    refine XS.aloadN X0.here hx rfl (hb hby d2_0) rfl rfl ?_
    show Steps p.tables e below (s₁.setTop (mkF m 1 #[.val (.ref s_BOOLEAN)] [(.ref s_BOOLEAN)])) _
    refine st1 _ ?_
    show Steps p.tables e below (T1.setTop (mkF m 4 #[.val (.ref s_BOOLEAN)] [.null])) _
    exact retOut X1 hx (i := .areturn) Bd.returns rfl (Or.inr (Or.inr (Or.inr (Or.inr ⟨rfl, rfl, rfl⟩)))) (hb hby d2_4) hr
  · exact ⟨rfl, N0, e1⟩
set_option maxRecDepth 65536 in
set_option maxHeartbeats 40000000 in
theorem law_k3 (l : Launch) (Z : State) (a0 : Array Value) (hw : ∀ d ∈ tables_1, d.before a0 Z = true) (ws : List Jvm.Cond) (h0 : Heap) (n0 : Nat) (s_NO_OP : Addr) (s_END_OF_CONSTRUCTOR : Addr) (s_ASCII_STRING : Addr) (s_BOOLEAN : Addr) (s_UNIQUE_ID : Addr) (s_SEQUENCE : Addr) (s_SET : Addr) (s_INTEGER : Addr) (s_PADDING : Addr) (s_PROPERTY_LIST : Addr) (s_DATE : Addr) (s_BIT_STRING : Addr) (t_BIT_STRING_qualifierTag : Addr) (s_PROPERTY : Addr) (s_FIELD : Addr) (t_FIELD_qualifierTag : Addr) (s_COMPRESSED : Addr) (s_ENCRYPTED : Addr) (t_ENCRYPTED_qualifierTag : Addr) (s_MESSAGE : Addr) (t_MESSAGE_qualifierTag : Addr) (s_EXTENSION : Addr) (s_VENDOR_DEFINED : Addr) (K : Ctx Z h0 s_NO_OP s_END_OF_CONSTRUCTOR s_ASCII_STRING s_BOOLEAN s_UNIQUE_ID s_SEQUENCE s_SET s_INTEGER s_PADDING s_PROPERTY_LIST s_DATE s_BIT_STRING t_BIT_STRING_qualifierTag s_PROPERTY s_FIELD t_FIELD_qualifierTag s_COMPRESSED s_ENCRYPTED t_ENCRYPTED_qualifierTag s_MESSAGE t_MESSAGE_qualifierTag s_EXTENSION s_VENDOR_DEFINED) (p0 : Int32) (hp0 : ((p0 &&& (2147483647 : Int32)) % (19 : Int32)) = (3 : Int32)) :
    MetFree l x (head1 (Jvm.Cond.code x code maxLocals ret :: ws) room_1) (fun a U => a = #[(.int p0)] ∧ Z.Warmed39 U.vm ∧ U.heap = h0) (fun _ _ _ _ _ => True) (fun _ U o U' => ∃ v L, o = .returned v ∧ QV (.int (1 : Int32)) h0 n0 v U'.heap L ∧ FrameEnd U o U' L room_1.cells room_1.slots) := by
  obtain ⟨S_NO_OP, F_NO_OP_code, E_NO_OP, F_NO_OP_qualifierTag, S_END_OF_CONSTRUCTOR, F_END_OF_CONSTRUCTOR_code, E_END_OF_CONSTRUCTOR, F_END_OF_CONSTRUCTOR_qualifierTag, S_ASCII_STRING, F_ASCII_STRING_code, E_ASCII_STRING, F_ASCII_STRING_qualifierTag, S_BOOLEAN, F_BOOLEAN_code, E_BOOLEAN, F_BOOLEAN_qualifierTag, S_UNIQUE_ID, F_UNIQUE_ID_code, E_UNIQUE_ID, F_UNIQUE_ID_qualifierTag, S_SEQUENCE, F_SEQUENCE_code, E_SEQUENCE, F_SEQUENCE_qualifierTag, S_SET, F_SET_code, E_SET, F_SET_qualifierTag, S_INTEGER, F_INTEGER_code, E_INTEGER, F_INTEGER_qualifierTag, S_PADDING, F_PADDING_code, E_PADDING, F_PADDING_qualifierTag, S_PROPERTY_LIST, F_PROPERTY_LIST_code, E_PROPERTY_LIST, F_PROPERTY_LIST_qualifierTag, S_DATE, F_DATE_code, E_DATE, F_DATE_qualifierTag, S_BIT_STRING, F_BIT_STRING_code, E_BIT_STRING, F_BIT_STRING_qualifierTag, S_PROPERTY, F_PROPERTY_code, E_PROPERTY, F_PROPERTY_qualifierTag, S_COMPRESSED, F_COMPRESSED_code, E_COMPRESSED, F_COMPRESSED_qualifierTag, S_ENCRYPTED, F_ENCRYPTED_code, E_ENCRYPTED, F_ENCRYPTED_qualifierTag, S_FIELD, F_FIELD_code, E_FIELD, F_FIELD_qualifierTag, S_MESSAGE, F_MESSAGE_code, E_MESSAGE, F_MESSAGE_qualifierTag, S_EXTENSION, F_EXTENSION_code, E_EXTENSION, F_EXTENSION_qualifierTag, S_VENDOR_DEFINED, F_VENDOR_DEFINED_code, E_VENDOR_DEFINED, F_VENDOR_DEFINED_qualifierTag⟩ := id K
  refine MetFree.of_bodySF (plainFor_of_name pn3) hisR ?_
  intro p e s m args below meth c s₁ Bd hml0 hP hK
  obtain ⟨rfl, hZ, hh⟩ := hP
  have hx := Bd.exec
  have hby := Bd.bytes
  have hml : c.maxLocals = 6 := hml0
  have hown : s.vm.findClass "com/example/plainwire/plainwire/rfc806/ElementQualifiedPinLaw" = some m.cls := findClass_of_methodNamed Bd.named
  have X0 : Stand p l e room_1 s m #[(.int p0)] below meth c s₁ [] 0 0 := Stand.of_body Bd
  have e0 : s₁.heap = h0 := by rw [← hh, Bd.state]; rfl
  have N0 := Fr.nil n0
  have pre0 : ∀ t, Steps p.tables e below (s₁.setTop (mkF m 0 #[.val (.int p0), .unset, .unset, .unset, .unset, .unset] [])) t → Steps p.tables e below (s₁.setTop (entryFrame m #[(.int p0)] maxLocals)) t := fun t k => castTop (by first | (simp [entryFrame, mkF, argsToLocals, Value.category, maxLocals]; done) | rfl) k
  obtain ⟨_, _, ⟨T1, L1, k1, n1⟩, -, X1, ⟨Lc1, hQ1, l1, y1, z1⟩, st1⟩ := Jvm.LawKit.callS X0 hx (y := (⟨"com/example/plainwire/plainwire/rfc806/ElementQualifiedPinLaw", "pick", "(I)Lcom/example/plainwire/plainwire/rfc806/Element;"⟩ : MethodName)) hown (mvT hZ (hw _ (List.mem_of_getElem? (i := 1) rfl))) (mvT hZ (hw _ (List.mem_of_getElem? (i := 2) rfl))) (mvT hZ (hw _ (List.mem_of_getElem? (i := 3) rfl))) (mvT hZ (hw _ (List.mem_of_getElem? (i := 4) rfl))) (by decide) (backOf (W := 0) (r12 l Z a0 hw [] h0 n0 s_NO_OP s_END_OF_CONSTRUCTOR s_ASCII_STRING s_BOOLEAN s_UNIQUE_ID s_SEQUENCE s_SET s_INTEGER s_PADDING s_PROPERTY_LIST s_DATE s_BIT_STRING t_BIT_STRING_qualifierTag s_PROPERTY s_FIELD t_FIELD_qualifierTag s_COMPRESSED s_ENCRYPTED t_ENCRYPTED_qualifierTag s_MESSAGE t_MESSAGE_qualifierTag s_EXTENSION s_VENDOR_DEFINED K) hZ (hw _ (List.mem_of_getElem? (i := 4) rfl)) (hw _ (List.mem_of_getElem? (i := 3) rfl)) (by decide) (by decide)) (g := (mkF m 9 #[.val (.int p0), .val (.int (3 : Int32)), .unset, .unset, .unset, .unset] [(.int (3 : Int32))])) rfl (by rw [hml]; rfl) (argsL := [(.int (3 : Int32))]) (rest := []) (lenOf pd0 rfl) rfl (by show 2 * 0 + _ ≤ _; exact Nat.le_of_eq rfl) (hb hby at_9) (fun _ _ => ⟨rfl, e0, (by decide : 0 + 0 ≤ _), (by decide : 0 + 0 ≤ _)⟩)
  dsimp only [Pt.U, Pt.locs, Pt.cells, Pt.slots] at X1 l1 y1 z1 st1 hQ1
  subst l1 y1 z1
  obtain ⟨rfl, N1q, e1⟩ := hQ1
  have N1 := Fr.app N0 N1q
  obtain ⟨cq2, kq2, q2a, q2b, q2c⟩ := isOf hZ e1 E_BOOLEAN
  obtain ⟨_, _, ⟨T2, L2, k2, n2⟩, -, X2, ⟨Lc2, hQ2, l2, y2, z2⟩, st2⟩ := X1.virtualBack hx (y := (⟨"com/example/plainwire/plainwire/rfc806/Element", "qualified", "()Z"⟩ : MethodName)) (z := (⟨"com/example/plainwire/plainwire/rfc806/Element", "qualified", "()Z"⟩ : MethodName)) hown (mvT hZ (hw _ (List.mem_of_getElem? (i := 8) rfl))) (mvT hZ (hw _ (List.mem_of_getElem? (i := 9) rfl))) (notFace_of_selects (args := #[]) (mvT hZ (hw _ (List.mem_of_getElem? (i := 11) rfl)))) (mvT hZ (hw _ (List.mem_of_getElem? (i := 11) rfl))) (mvT hZ (hw _ (List.mem_of_getElem? (i := 10) rfl))) (by decide) (backOf (W := 0) (r13 l Z a0 hw [] h0 n0 s_NO_OP s_END_OF_CONSTRUCTOR s_ASCII_STRING s_BOOLEAN s_UNIQUE_ID s_SEQUENCE s_SET s_INTEGER s_PADDING s_PROPERTY_LIST s_DATE s_BIT_STRING t_BIT_STRING_qualifierTag s_PROPERTY s_FIELD t_FIELD_qualifierTag s_COMPRESSED s_ENCRYPTED t_ENCRYPTED_qualifierTag s_MESSAGE t_MESSAGE_qualifierTag s_EXTENSION s_VENDOR_DEFINED K) hZ (hw _ (List.mem_of_getElem? (i := 12) rfl)) (hw _ (List.mem_of_getElem? (i := 6) rfl)) (by decide) (by decide)) q2a q2c (g := (mkF m 26 #[.val (.int p0), .val (.int (3 : Int32)), .val (.ref s_BOOLEAN), .val (.int (0 : Int32)), .unset, .unset] [(.ref s_BOOLEAN)])) rfl (by rw [hml]; rfl) (Steps.refl _) (argsL := []) (rest := []) (lenOf pd1 rfl) rfl (by show 2 * 0 + _ ≤ _; exact Nat.le_of_eq rfl) (hb hby at_26) (fun _ _ => ⟨rfl, e1, (by decide : 0 + 0 ≤ _), (by decide : 0 + 0 ≤ _)⟩)
  dsimp only [Pt.U, Pt.locs, Pt.cells, Pt.slots] at X2 l2 y2 z2 st2 hQ2
  subst l2 y2 z2
  obtain ⟨rfl, N2q, e2⟩ := hQ2
  have N2 := Fr.app N1 N2q
  obtain ⟨cq3, kq3, q3a, q3b, q3c⟩ := isOf hZ e2 E_BOOLEAN
  obtain ⟨_, _, ⟨T3, L3, k3, n3⟩, -, X3, ⟨Lc3, hQ3, l3, y3, z3⟩, st3⟩ := X2.virtualBack hx (y := (⟨"com/example/plainwire/plainwire/rfc806/Element", "qualifierTag", "()Ljava/lang/String;"⟩ : MethodName)) (z := (⟨"com/example/plainwire/plainwire/rfc806/Element", "qualifierTag", "()Ljava/lang/String;"⟩ : MethodName)) hown (mvT hZ (hw _ (List.mem_of_getElem? (i := 15) rfl))) (mvT hZ (hw _ (List.mem_of_getElem? (i := 16) rfl))) (notFace_of_selects (args := #[]) (mvT hZ (hw _ (List.mem_of_getElem? (i := 18) rfl)))) (mvT hZ (hw _ (List.mem_of_getElem? (i := 18) rfl))) (mvT hZ (hw _ (List.mem_of_getElem? (i := 17) rfl))) (by decide) (backOf (W := 0) (r14 l Z a0 hw [] h0 n0 s_NO_OP s_END_OF_CONSTRUCTOR s_ASCII_STRING s_BOOLEAN s_UNIQUE_ID s_SEQUENCE s_SET s_INTEGER s_PADDING s_PROPERTY_LIST s_DATE s_BIT_STRING t_BIT_STRING_qualifierTag s_PROPERTY s_FIELD t_FIELD_qualifierTag s_COMPRESSED s_ENCRYPTED t_ENCRYPTED_qualifierTag s_MESSAGE t_MESSAGE_qualifierTag s_EXTENSION s_VENDOR_DEFINED K) hZ (hw _ (List.mem_of_getElem? (i := 19) rfl)) (hw _ (List.mem_of_getElem? (i := 6) rfl)) (by decide) (by decide)) q3a q3c (g := (mkF m 32 #[.val (.int p0), .val (.int (3 : Int32)), .val (.ref s_BOOLEAN), .val (.int (0 : Int32)), .val (.int (0 : Int32)), .unset] [(.ref s_BOOLEAN)])) rfl (by rw [hml]; rfl) (Steps.refl _) (argsL := []) (rest := []) (lenOf pd2 rfl) rfl (by show 2 * 0 + _ ≤ _; exact Nat.le_of_eq rfl) (hb hby at_32) (fun _ _ => ⟨rfl, e2, (by decide : 0 + 0 ≤ _), (by decide : 0 + 0 ≤ _)⟩)
  dsimp only [Pt.U, Pt.locs, Pt.cells, Pt.slots] at X3 l3 y3 z3 st3 hQ3
  subst l3 y3 z3
  obtain ⟨rfl, N3q, e3⟩ := hQ3
  have N3 := Fr.app N2 N3q
  obtain ⟨fs, hr, hrun, hended, hW, hsame⟩ := X3.leave (v := some (.int (1 : Int32))) (fun h => by rw [Bd.returns] at h; cases h)
  refine ⟨_, _, pre0 _ ?_, hrun, hended, _, _, rfl, ?_, ⟨_, rfl⟩, hW, hsame.mono (by decide) (by decide)⟩
  · show Steps p.tables e below (s₁.setTop (mkF m 0 #[.val (.int p0), .unset, .unset, .unset, .unset, .unset] [])) _
    refine XS.iloadN X0.here hx rfl (hb hby at_0) rfl ?_
    show Steps p.tables e below (s₁.setTop (mkF m 1 #[.val (.int p0), .unset, .unset, .unset, .unset, .unset] [(.int p0)])) _
    refine X0.ldcInt hx hown (mvT hZ (hw _ (List.mem_of_getElem? (i := 0) rfl))) (g := (mkF m 1 #[.val (.int p0), .unset, .unset, .unset, .unset, .unset] [(.int p0)])) rfl (hb hby at_1) _ ?_
    show Steps p.tables e below (s₁.setTop (mkF m 3 #[.val (.int p0), .unset, .unset, .unset, .unset, .unset] [(.int (2147483647 : Int32)), (.int p0)])) _
    refine XS.iand X0.here hx rfl (hb hby at_3) rfl ?_
    show Steps p.tables e below (s₁.setTop (mkF m 4 #[.val (.int p0), .unset, .unset, .unset, .unset, .unset] [(.int (p0 &&& (2147483647 : Int32)))])) _
    refine XS.bipush X0.here hx rfl (hb hby at_4) ?_
    show Steps p.tables e below (s₁.setTop (mkF m 6 #[.val (.int p0), .unset, .unset, .unset, .unset, .unset] [(.int (19 : Int32)), (.int (p0 &&& (2147483647 : Int32)))])) _
    refine Jvm.RoadKit.iremM X0 hx rfl (hb hby at_6) rfl (by decide) ?_
    show Steps p.tables e below (s₁.setTop (mkF m 7 #[.val (.int p0), .unset, .unset, .unset, .unset, .unset] [(.int ((p0 &&& (2147483647 : Int32)) % (19 : Int32)))])) _
    rw [hp0]
    show Steps p.tables e below (s₁.setTop (mkF m 7 #[.val (.int p0), .unset, .unset, .unset, .unset, .unset] [(.int (3 : Int32))])) _
    refine XS.istoreN X0.here hx rfl (hb hby at_7) rfl (l' := #[.val (.int p0), .val (.int (3 : Int32)), .unset, .unset, .unset, .unset]) rfl ?_
    show Steps p.tables e below (s₁.setTop (mkF m 8 #[.val (.int p0), .val (.int (3 : Int32)), .unset, .unset, .unset, .unset] [])) _
    refine XS.iloadN X0.here hx rfl (hb hby at_8) rfl ?_
    show Steps p.tables e below (s₁.setTop (mkF m 9 #[.val (.int p0), .val (.int (3 : Int32)), .unset, .unset, .unset, .unset] [(.int (3 : Int32))])) _
    refine st1 _ ?_
    show Steps p.tables e below (T1.setTop (mkF m 12 #[.val (.int p0), .val (.int (3 : Int32)), .unset, .unset, .unset, .unset] [(.ref s_BOOLEAN)])) _
    refine XS.astoreN X1.here hx rfl (hb hby at_12) rfl rfl (l' := #[.val (.int p0), .val (.int (3 : Int32)), .val (.ref s_BOOLEAN), .unset, .unset, .unset]) rfl ?_
    show Steps p.tables e below (T1.setTop (mkF m 13 #[.val (.int p0), .val (.int (3 : Int32)), .val (.ref s_BOOLEAN), .unset, .unset, .unset] [])) _
    refine XS.iloadN X1.here hx rfl (hb hby at_13) rfl ?_
    show Steps p.tables e below (T1.setTop (mkF m 14 #[.val (.int p0), .val (.int (3 : Int32)), .val (.ref s_BOOLEAN), .unset, .unset, .unset] [(.int (3 : Int32))])) _
    refine XS.bipush X1.here hx rfl (hb hby at_14) ?_
    show Steps p.tables e below (T1.setTop (mkF m 16 #[.val (.int p0), .val (.int (3 : Int32)), .val (.ref s_BOOLEAN), .unset, .unset, .unset] [(.int (11 : Int32)), (.int (3 : Int32))])) _
    refine XS.icmpYes X1.here hx rfl (pc0 := 16) (pc' := 23) rfl (hb hby at_16) rfl (by decide +kernel) (by decide) (by decide) ?_
    show Steps p.tables e below (T1.setTop (mkF m 23 #[.val (.int p0), .val (.int (3 : Int32)), .val (.ref s_BOOLEAN), .unset, .unset, .unset] [])) _
    refine XS.iconst X1.here hx rfl (hb hby at_23) ?_
    show Steps p.tables e below (T1.setTop (mkF m 24 #[.val (.int p0), .val (.int (3 : Int32)), .val (.ref s_BOOLEAN), .unset, .unset, .unset] [(.int (0 : Int32))])) _
    refine XS.istoreN X1.here hx rfl (hb hby at_24) rfl (l' := #[.val (.int p0), .val (.int (3 : Int32)), .val (.ref s_BOOLEAN), .val (.int (0 : Int32)), .unset, .unset]) rfl ?_
    show Steps p.tables e below (T1.setTop (mkF m 25 #[.val (.int p0), .val (.int (3 : Int32)), .val (.ref s_BOOLEAN), .val (.int (0 : Int32)), .unset, .unset] [])) _
    refine XS.aloadN X1.here hx rfl (hb hby at_25) rfl rfl ?_
    show Steps p.tables e below (T1.setTop (mkF m 26 #[.val (.int p0), .val (.int (3 : Int32)), .val (.ref s_BOOLEAN), .val (.int (0 : Int32)), .unset, .unset] [(.ref s_BOOLEAN)])) _
    refine st2.trans ?_
    show Steps p.tables e below (T2.setTop (mkF m 29 #[.val (.int p0), .val (.int (3 : Int32)), .val (.ref s_BOOLEAN), .val (.int (0 : Int32)), .unset, .unset] [(.int (0 : Int32))])) _
    refine XS.istore X2.here hx rfl (hb hby at_29) rfl (l' := #[.val (.int p0), .val (.int (3 : Int32)), .val (.ref s_BOOLEAN), .val (.int (0 : Int32)), .val (.int (0 : Int32)), .unset]) rfl ?_
    show Steps p.tables e below (T2.setTop (mkF m 31 #[.val (.int p0), .val (.int (3 : Int32)), .val (.ref s_BOOLEAN), .val (.int (0 : Int32)), .val (.int (0 : Int32)), .unset] [])) _
    refine XS.aloadN X2.here hx rfl (hb hby at_31) rfl rfl ?_
    show Steps p.tables e below (T2.setTop (mkF m 32 #[.val (.int p0), .val (.int (3 : Int32)), .val (.ref s_BOOLEAN), .val (.int (0 : Int32)), .val (.int (0 : Int32)), .unset] [(.ref s_BOOLEAN)])) _
    refine st3.trans ?_
    show Steps p.tables e below (T3.setTop (mkF m 35 #[.val (.int p0), .val (.int (3 : Int32)), .val (.ref s_BOOLEAN), .val (.int (0 : Int32)), .val (.int (0 : Int32)), .unset] [.null])) _
    refine XS.ifnullYes X3.here hx rfl (pc0 := 35) (pc' := 42) rfl (hb hby at_35) rfl (by decide) (by decide) ?_
    show Steps p.tables e below (T3.setTop (mkF m 42 #[.val (.int p0), .val (.int (3 : Int32)), .val (.ref s_BOOLEAN), .val (.int (0 : Int32)), .val (.int (0 : Int32)), .unset] [])) _
    refine XS.iconst X3.here hx rfl (hb hby at_42) ?_
    show Steps p.tables e below (T3.setTop (mkF m 43 #[.val (.int p0), .val (.int (3 : Int32)), .val (.ref s_BOOLEAN), .val (.int (0 : Int32)), .val (.int (0 : Int32)), .unset] [(.int (0 : Int32))])) _
    refine XS.istore X3.here hx rfl (hb hby at_43) rfl (l' := #[.val (.int p0), .val (.int (3 : Int32)), .val (.ref s_BOOLEAN), .val (.int (0 : Int32)), .val (.int (0 : Int32)), .val (.int (0 : Int32))]) rfl ?_
    show Steps p.tables e below (T3.setTop (mkF m 45 #[.val (.int p0), .val (.int (3 : Int32)), .val (.ref s_BOOLEAN), .val (.int (0 : Int32)), .val (.int (0 : Int32)), .val (.int (0 : Int32))] [])) _
    refine XS.iload X3.here hx rfl (hb hby at_45) rfl ?_
    show Steps p.tables e below (T3.setTop (mkF m 47 #[.val (.int p0), .val (.int (3 : Int32)), .val (.ref s_BOOLEAN), .val (.int (0 : Int32)), .val (.int (0 : Int32)), .val (.int (0 : Int32))] [(.int (0 : Int32))])) _
    refine XS.iloadN X3.here hx rfl (hb hby at_47) rfl ?_
    show Steps p.tables e below (T3.setTop (mkF m 48 #[.val (.int p0), .val (.int (3 : Int32)), .val (.ref s_BOOLEAN), .val (.int (0 : Int32)), .val (.int (0 : Int32)), .val (.int (0 : Int32))] [(.int (0 : Int32)), (.int (0 : Int32))])) _
    refine XS.icmpNo X3.here hx rfl (hb hby at_48) rfl (by decide +kernel) ?_
    show Steps p.tables e below (T3.setTop (mkF m 51 #[.val (.int p0), .val (.int (3 : Int32)), .val (.ref s_BOOLEAN), .val (.int (0 : Int32)), .val (.int (0 : Int32)), .val (.int (0 : Int32))] [])) _
    refine XS.iload X3.here hx rfl (hb hby at_51) rfl ?_
    show Steps p.tables e below (T3.setTop (mkF m 53 #[.val (.int p0), .val (.int (3 : Int32)), .val (.ref s_BOOLEAN), .val (.int (0 : Int32)), .val (.int (0 : Int32)), .val (.int (0 : Int32))] [(.int (0 : Int32))])) _
    refine XS.iload X3.here hx rfl (hb hby at_53) rfl ?_
    show Steps p.tables e below (T3.setTop (mkF m 55 #[.val (.int p0), .val (.int (3 : Int32)), .val (.ref s_BOOLEAN), .val (.int (0 : Int32)), .val (.int (0 : Int32)), .val (.int (0 : Int32))] [(.int (0 : Int32)), (.int (0 : Int32))])) _
    refine XS.icmpNo X3.here hx rfl (hb hby at_55) rfl (by decide +kernel) ?_
    show Steps p.tables e below (T3.setTop (mkF m 58 #[.val (.int p0), .val (.int (3 : Int32)), .val (.ref s_BOOLEAN), .val (.int (0 : Int32)), .val (.int (0 : Int32)), .val (.int (0 : Int32))] [])) _
    refine XS.iconst X3.here hx rfl (hb hby at_58) ?_
    show Steps p.tables e below (T3.setTop (mkF m 59 #[.val (.int p0), .val (.int (3 : Int32)), .val (.ref s_BOOLEAN), .val (.int (0 : Int32)), .val (.int (0 : Int32)), .val (.int (0 : Int32))] [(.int (1 : Int32))])) _
    refine XS.goto X3.here hx rfl (pc0 := 59) (pc' := 63) rfl (hb hby at_59) (by decide) (by decide) ?_
    show Steps p.tables e below (T3.setTop (mkF m 63 #[.val (.int p0), .val (.int (3 : Int32)), .val (.ref s_BOOLEAN), .val (.int (0 : Int32)), .val (.int (0 : Int32)), .val (.int (0 : Int32))] [(.int (1 : Int32))])) _
    exact retN X3 hx (t := .boolean) Bd.returns (by simp) (hb hby at_63) hr
  · exact ⟨rfl, N3, e3⟩
set_option maxRecDepth 65536 in
set_option maxHeartbeats 40000000 in
theorem r16 (l : Launch) (Z : State) (a0 : Array Value) (hw : ∀ d ∈ tables_1, d.before a0 Z = true) (ws : List Jvm.Cond) (h0 : Heap) (n0 : Nat) (s_NO_OP : Addr) (s_END_OF_CONSTRUCTOR : Addr) (s_ASCII_STRING : Addr) (s_BOOLEAN : Addr) (s_UNIQUE_ID : Addr) (s_SEQUENCE : Addr) (s_SET : Addr) (s_INTEGER : Addr) (s_PADDING : Addr) (s_PROPERTY_LIST : Addr) (s_DATE : Addr) (s_BIT_STRING : Addr) (t_BIT_STRING_qualifierTag : Addr) (s_PROPERTY : Addr) (s_FIELD : Addr) (t_FIELD_qualifierTag : Addr) (s_COMPRESSED : Addr) (s_ENCRYPTED : Addr) (t_ENCRYPTED_qualifierTag : Addr) (s_MESSAGE : Addr) (t_MESSAGE_qualifierTag : Addr) (s_EXTENSION : Addr) (s_VENDOR_DEFINED : Addr) (K : Ctx Z h0 s_NO_OP s_END_OF_CONSTRUCTOR s_ASCII_STRING s_BOOLEAN s_UNIQUE_ID s_SEQUENCE s_SET s_INTEGER s_PADDING s_PROPERTY_LIST s_DATE s_BIT_STRING t_BIT_STRING_qualifierTag s_PROPERTY s_FIELD t_FIELD_qualifierTag s_COMPRESSED s_ENCRYPTED t_ENCRYPTED_qualifierTag s_MESSAGE t_MESSAGE_qualifierTag s_EXTENSION s_VENDOR_DEFINED) :
    MetFree l (⟨"com/example/plainwire/plainwire/rfc806/ElementQualifiedPinLaw", "pick", "(I)Lcom/example/plainwire/plainwire/rfc806/Element;"⟩ : MethodName) (head1 (Jvm.Cond.code (⟨"com/example/plainwire/plainwire/rfc806/ElementQualifiedPinLaw", "pick", "(I)Lcom/example/plainwire/plainwire/rfc806/Element;"⟩ : MethodName) method_2_code 1 (some (.object "com/example/plainwire/plainwire/rfc806/Element")) :: ws) ({ frames := 0, cells := 0, slots := 0, locals := 0 } : Room)) (fun a U => a = #[(.int (4 : Int32))] ∧ Z.Warmed39 U.vm ∧ U.heap = h0) (fun _ _ _ _ _ => True) (fun _ U o U' => ∃ v L, o = .returned v ∧ QV (.ref s_UNIQUE_ID) h0 n0 v U'.heap L ∧ FrameEnd U o U' L ({ frames := 0, cells := 0, slots := 0, locals := 0 } : Room).cells ({ frames := 0, cells := 0, slots := 0, locals := 0 } : Room).slots) := by
  obtain ⟨S_NO_OP, F_NO_OP_code, E_NO_OP, F_NO_OP_qualifierTag, S_END_OF_CONSTRUCTOR, F_END_OF_CONSTRUCTOR_code, E_END_OF_CONSTRUCTOR, F_END_OF_CONSTRUCTOR_qualifierTag, S_ASCII_STRING, F_ASCII_STRING_code, E_ASCII_STRING, F_ASCII_STRING_qualifierTag, S_BOOLEAN, F_BOOLEAN_code, E_BOOLEAN, F_BOOLEAN_qualifierTag, S_UNIQUE_ID, F_UNIQUE_ID_code, E_UNIQUE_ID, F_UNIQUE_ID_qualifierTag, S_SEQUENCE, F_SEQUENCE_code, E_SEQUENCE, F_SEQUENCE_qualifierTag, S_SET, F_SET_code, E_SET, F_SET_qualifierTag, S_INTEGER, F_INTEGER_code, E_INTEGER, F_INTEGER_qualifierTag, S_PADDING, F_PADDING_code, E_PADDING, F_PADDING_qualifierTag, S_PROPERTY_LIST, F_PROPERTY_LIST_code, E_PROPERTY_LIST, F_PROPERTY_LIST_qualifierTag, S_DATE, F_DATE_code, E_DATE, F_DATE_qualifierTag, S_BIT_STRING, F_BIT_STRING_code, E_BIT_STRING, F_BIT_STRING_qualifierTag, S_PROPERTY, F_PROPERTY_code, E_PROPERTY, F_PROPERTY_qualifierTag, S_COMPRESSED, F_COMPRESSED_code, E_COMPRESSED, F_COMPRESSED_qualifierTag, S_ENCRYPTED, F_ENCRYPTED_code, E_ENCRYPTED, F_ENCRYPTED_qualifierTag, S_FIELD, F_FIELD_code, E_FIELD, F_FIELD_qualifierTag, S_MESSAGE, F_MESSAGE_code, E_MESSAGE, F_MESSAGE_qualifierTag, S_EXTENSION, F_EXTENSION_code, E_EXTENSION, F_EXTENSION_qualifierTag, S_VENDOR_DEFINED, F_VENDOR_DEFINED_code, E_VENDOR_DEFINED, F_VENDOR_DEFINED_qualifierTag⟩ := id K
  refine MetFree.of_bodySF (plainFor_of_name pn0) hisR ?_
  intro p e s m args below meth c s₁ Bd hml0 hP hK
  obtain ⟨rfl, hZ, hh⟩ := hP
  have hx := Bd.exec
  have hby := Bd.bytes
  have hml : c.maxLocals = 1 := hml0
  have hown : s.vm.findClass "com/example/plainwire/plainwire/rfc806/ElementQualifiedPinLaw" = some m.cls := findClass_of_methodNamed Bd.named
  have X0 : Stand p l e ({ frames := 0, cells := 0, slots := 0, locals := 0 } : Room) s m #[(.int (4 : Int32))] below meth c s₁ [] 0 0 := Stand.of_body Bd
  have e0 : s₁.heap = h0 := by rw [← hh, Bd.state]; rfl
  have N0 := Fr.nil n0
  have pre0 : ∀ t, Steps p.tables e below (s₁.setTop (mkF m 0 #[.val (.int (4 : Int32))] [])) t → Steps p.tables e below (s₁.setTop (entryFrame m #[(.int (4 : Int32))] 1)) t := fun t k => castTop (by first | (simp [entryFrame, mkF, argsToLocals, Value.category]; done) | rfl) k
  obtain ⟨T1, X1, e1, st1⟩ := getS X0 hx hZ hown (host := "") (hw _ (List.mem_of_getElem? (i := 50) rfl)) Via.refl e0 S_UNIQUE_ID (g := (mkF m 40 #[.val (.int (4 : Int32))] [])) rfl (hb hby d0_40)
  obtain ⟨fs, hr, hrun, hended, hW, hsame⟩ := X1.leave (v := some (.ref s_UNIQUE_ID)) (fun h => by rw [Bd.returns] at h; cases h)
  refine ⟨_, _, pre0 _ ?_, hrun, hended, _, _, rfl, ?_, ⟨_, rfl⟩, hW, hsame.mono (by decide) (by decide)⟩
  · show Steps p.tables e below (s₁.setTop (mkF m 0 #[.val (.int (4 : Int32))] [])) _
    refine XS.iloadN X0.here hx rfl (hb hby d0_0) rfl ?_
    show Steps p.tables e below (s₁.setTop (mkF m 1 #[.val (.int (4 : Int32))] [(.int (4 : Int32))])) _
    refine XS.ifYes X0.here hx rfl (pc0 := 1) (pc' := 8) rfl (hb hby d0_1) rfl (by decide +kernel) (by decide) (by decide) ?_
    show Steps p.tables e below (s₁.setTop (mkF m 8 #[.val (.int (4 : Int32))] [])) _
    refine XS.iloadN X0.here hx rfl (hb hby d0_8) rfl ?_
    show Steps p.tables e below (s₁.setTop (mkF m 9 #[.val (.int (4 : Int32))] [(.int (4 : Int32))])) _
    refine XS.iconst X0.here hx rfl (hb hby d0_9) ?_
    show Steps p.tables e below (s₁.setTop (mkF m 10 #[.val (.int (4 : Int32))] [(.int (1 : Int32)), (.int (4 : Int32))])) _
    refine XS.icmpYes X0.here hx rfl (pc0 := 10) (pc' := 17) rfl (hb hby d0_10) rfl (by decide +kernel) (by decide) (by decide) ?_
    show Steps p.tables e below (s₁.setTop (mkF m 17 #[.val (.int (4 : Int32))] [])) _
    refine XS.iloadN X0.here hx rfl (hb hby d0_17) rfl ?_
    show Steps p.tables e below (s₁.setTop (mkF m 18 #[.val (.int (4 : Int32))] [(.int (4 : Int32))])) _
    refine XS.iconst X0.here hx rfl (hb hby d0_18) ?_
    show Steps p.tables e below (s₁.setTop (mkF m 19 #[.val (.int (4 : Int32))] [(.int (2 : Int32)), (.int (4 : Int32))])) _
    refine XS.icmpYes X0.here hx rfl (pc0 := 19) (pc' := 26) rfl (hb hby d0_19) rfl (by decide +kernel) (by decide) (by decide) ?_
    show Steps p.tables e below (s₁.setTop (mkF m 26 #[.val (.int (4 : Int32))] [])) _
    refine XS.iloadN X0.here hx rfl (hb hby d0_26) rfl ?_
    show Steps p.tables e below (s₁.setTop (mkF m 27 #[.val (.int (4 : Int32))] [(.int (4 : Int32))])) _
    refine XS.iconst X0.here hx rfl (hb hby d0_27) ?_
    show Steps p.tables e below (s₁.setTop (mkF m 28 #[.val (.int (4 : Int32))] [(.int (3 : Int32)), (.int (4 : Int32))])) _
    refine XS.icmpYes X0.here hx rfl (pc0 := 28) (pc' := 35) rfl (hb hby d0_28) rfl (by decide +kernel) (by decide) (by decide) ?_
    show Steps p.tables e below (s₁.setTop (mkF m 35 #[.val (.int (4 : Int32))] [])) _
    refine XS.iloadN X0.here hx rfl (hb hby d0_35) rfl ?_
    show Steps p.tables e below (s₁.setTop (mkF m 36 #[.val (.int (4 : Int32))] [(.int (4 : Int32))])) _
    refine XS.iconst X0.here hx rfl (hb hby d0_36) ?_
    show Steps p.tables e below (s₁.setTop (mkF m 37 #[.val (.int (4 : Int32))] [(.int (4 : Int32)), (.int (4 : Int32))])) _
    refine XS.icmpNo X0.here hx rfl (hb hby d0_37) rfl (by decide +kernel) ?_
    show Steps p.tables e below (s₁.setTop (mkF m 40 #[.val (.int (4 : Int32))] [])) _
    refine st1 _ ?_
    show Steps p.tables e below (T1.setTop (mkF m 43 #[.val (.int (4 : Int32))] [(.ref s_UNIQUE_ID)])) _
    exact retOut X1 hx (i := .areturn) Bd.returns rfl (Or.inr (Or.inr (Or.inr (Or.inr ⟨rfl, rfl, rfl⟩)))) (hb hby d0_43) hr
  · exact ⟨rfl, N0, e1⟩
set_option maxRecDepth 65536 in
set_option maxHeartbeats 40000000 in
theorem r17 (l : Launch) (Z : State) (a0 : Array Value) (hw : ∀ d ∈ tables_1, d.before a0 Z = true) (ws : List Jvm.Cond) (h0 : Heap) (n0 : Nat) (s_NO_OP : Addr) (s_END_OF_CONSTRUCTOR : Addr) (s_ASCII_STRING : Addr) (s_BOOLEAN : Addr) (s_UNIQUE_ID : Addr) (s_SEQUENCE : Addr) (s_SET : Addr) (s_INTEGER : Addr) (s_PADDING : Addr) (s_PROPERTY_LIST : Addr) (s_DATE : Addr) (s_BIT_STRING : Addr) (t_BIT_STRING_qualifierTag : Addr) (s_PROPERTY : Addr) (s_FIELD : Addr) (t_FIELD_qualifierTag : Addr) (s_COMPRESSED : Addr) (s_ENCRYPTED : Addr) (t_ENCRYPTED_qualifierTag : Addr) (s_MESSAGE : Addr) (t_MESSAGE_qualifierTag : Addr) (s_EXTENSION : Addr) (s_VENDOR_DEFINED : Addr) (K : Ctx Z h0 s_NO_OP s_END_OF_CONSTRUCTOR s_ASCII_STRING s_BOOLEAN s_UNIQUE_ID s_SEQUENCE s_SET s_INTEGER s_PADDING s_PROPERTY_LIST s_DATE s_BIT_STRING t_BIT_STRING_qualifierTag s_PROPERTY s_FIELD t_FIELD_qualifierTag s_COMPRESSED s_ENCRYPTED t_ENCRYPTED_qualifierTag s_MESSAGE t_MESSAGE_qualifierTag s_EXTENSION s_VENDOR_DEFINED) :
    MetFree l (⟨"com/example/plainwire/plainwire/rfc806/Element", "qualified", "()Z"⟩ : MethodName) (head1 (Jvm.Cond.code (⟨"com/example/plainwire/plainwire/rfc806/Element", "qualified", "()Z"⟩ : MethodName) prog_101_method_9_code 1 (some .boolean) :: ws) ({ frames := 0, cells := 0, slots := 0, locals := 0 } : Room)) (fun a U => a = #[(.ref s_UNIQUE_ID)] ∧ Z.Warmed39 U.vm ∧ U.heap = h0) (fun _ _ _ _ _ => True) (fun _ U o U' => ∃ v L, o = .returned v ∧ QV (.int (0 : Int32)) h0 n0 v U'.heap L ∧ FrameEnd U o U' L ({ frames := 0, cells := 0, slots := 0, locals := 0 } : Room).cells ({ frames := 0, cells := 0, slots := 0, locals := 0 } : Room).slots) := by
  obtain ⟨S_NO_OP, F_NO_OP_code, E_NO_OP, F_NO_OP_qualifierTag, S_END_OF_CONSTRUCTOR, F_END_OF_CONSTRUCTOR_code, E_END_OF_CONSTRUCTOR, F_END_OF_CONSTRUCTOR_qualifierTag, S_ASCII_STRING, F_ASCII_STRING_code, E_ASCII_STRING, F_ASCII_STRING_qualifierTag, S_BOOLEAN, F_BOOLEAN_code, E_BOOLEAN, F_BOOLEAN_qualifierTag, S_UNIQUE_ID, F_UNIQUE_ID_code, E_UNIQUE_ID, F_UNIQUE_ID_qualifierTag, S_SEQUENCE, F_SEQUENCE_code, E_SEQUENCE, F_SEQUENCE_qualifierTag, S_SET, F_SET_code, E_SET, F_SET_qualifierTag, S_INTEGER, F_INTEGER_code, E_INTEGER, F_INTEGER_qualifierTag, S_PADDING, F_PADDING_code, E_PADDING, F_PADDING_qualifierTag, S_PROPERTY_LIST, F_PROPERTY_LIST_code, E_PROPERTY_LIST, F_PROPERTY_LIST_qualifierTag, S_DATE, F_DATE_code, E_DATE, F_DATE_qualifierTag, S_BIT_STRING, F_BIT_STRING_code, E_BIT_STRING, F_BIT_STRING_qualifierTag, S_PROPERTY, F_PROPERTY_code, E_PROPERTY, F_PROPERTY_qualifierTag, S_COMPRESSED, F_COMPRESSED_code, E_COMPRESSED, F_COMPRESSED_qualifierTag, S_ENCRYPTED, F_ENCRYPTED_code, E_ENCRYPTED, F_ENCRYPTED_qualifierTag, S_FIELD, F_FIELD_code, E_FIELD, F_FIELD_qualifierTag, S_MESSAGE, F_MESSAGE_code, E_MESSAGE, F_MESSAGE_qualifierTag, S_EXTENSION, F_EXTENSION_code, E_EXTENSION, F_EXTENSION_qualifierTag, S_VENDOR_DEFINED, F_VENDOR_DEFINED_code, E_VENDOR_DEFINED, F_VENDOR_DEFINED_qualifierTag⟩ := id K
  refine MetFree.of_bodySF (plainFor_of_name pn1) hisR ?_
  intro p e s m args below meth c s₁ Bd hml0 hP hK
  obtain ⟨rfl, hZ, hh⟩ := hP
  have hx := Bd.exec
  have hby := Bd.bytes
  have hml : c.maxLocals = 1 := hml0
  have hown : s.vm.findClass "com/example/plainwire/plainwire/rfc806/Element" = some m.cls := findClass_of_methodNamed Bd.named
  have X0 : Stand p l e ({ frames := 0, cells := 0, slots := 0, locals := 0 } : Room) s m #[(.ref s_UNIQUE_ID)] below meth c s₁ [] 0 0 := Stand.of_body Bd
  have e0 : s₁.heap = h0 := by rw [← hh, Bd.state]; rfl
  have N0 := Fr.nil n0
  have pre0 : ∀ t, Steps p.tables e below (s₁.setTop (mkF m 0 #[.val (.ref s_UNIQUE_ID)] [])) t → Steps p.tables e below (s₁.setTop (entryFrame m #[(.ref s_UNIQUE_ID)] 1)) t := fun t k => castTop (by first | (simp [entryFrame, mkF, argsToLocals, Value.category]; done) | rfl) k
  obtain ⟨T1, X1, e1, st1⟩ := getF X0 hx hZ hown (host := "") (Or.inl (hw _ (List.mem_of_getElem? (i := 13) rfl))) Via.refl e0 F_UNIQUE_ID_code (g := (mkF m 1 #[.val (.ref s_UNIQUE_ID)] [(.ref s_UNIQUE_ID)])) rfl rfl (hb hby d1_1)
  obtain ⟨fs, hr, hrun, hended, hW, hsame⟩ := X1.leave (v := some (.int (0 : Int32))) (fun h => by rw [Bd.returns] at h; cases h)
  refine ⟨_, _, pre0 _ ?_, hrun, hended, _, _, rfl, ?_, ⟨_, rfl⟩, hW, hsame.mono (by decide) (by decide)⟩
  · show Steps p.tables e below (s₁.setTop (mkF m 0 #[.val (.ref s_UNIQUE_ID)] [])) _
    refine XS.aloadN X0.here hx rfl (hb hby d1_0) rfl rfl ?_
    show Steps p.tables e below (s₁.setTop (mkF m 1 #[.val (.ref s_UNIQUE_ID)] [(.ref s_UNIQUE_ID)])) _
    refine st1 _ ?_
    show Steps p.tables e below (T1.setTop (mkF m 4 #[.val (.ref s_UNIQUE_ID)] [(.int (9 : Int32))])) _
    refine XS.bipush X1.here hx rfl (hb hby d1_4) ?_
    show Steps p.tables e below (T1.setTop (mkF m 6 #[.val (.ref s_UNIQUE_ID)] [(.int (64 : Int32)), (.int (9 : Int32))])) _
    refine XS.iand X1.here hx rfl (hb hby d1_6) rfl ?_
    show Steps p.tables e below (T1.setTop (mkF m 7 #[.val (.ref s_UNIQUE_ID)] [(.int ((9 : Int32) &&& (64 : Int32)))])) _
    rw [show ((9 : Int32) &&& (64 : Int32)) = (0 : Int32) from by decide +kernel]
    show Steps p.tables e below (T1.setTop (mkF m 7 #[.val (.ref s_UNIQUE_ID)] [(.int (0 : Int32))])) _
    refine XS.ifYes X1.here hx rfl (pc0 := 7) (pc' := 14) rfl (hb hby d1_7) rfl (by decide +kernel) (by decide) (by decide) ?_
    show Steps p.tables e below (T1.setTop (mkF m 14 #[.val (.ref s_UNIQUE_ID)] [])) _
    refine XS.iconst X1.here hx rfl (hb hby d1_14) ?_
    show Steps p.tables e below (T1.setTop (mkF m 15 #[.val (.ref s_UNIQUE_ID)] [(.int (0 : Int32))])) _
    exact retN X1 hx (t := .boolean) Bd.returns (by simp) (hb hby d1_15) hr
  · exact ⟨rfl, N0, e1⟩
set_option maxRecDepth 65536 in
set_option maxHeartbeats 40000000 in
theorem r18 (l : Launch) (Z : State) (a0 : Array Value) (hw : ∀ d ∈ tables_1, d.before a0 Z = true) (ws : List Jvm.Cond) (h0 : Heap) (n0 : Nat) (s_NO_OP : Addr) (s_END_OF_CONSTRUCTOR : Addr) (s_ASCII_STRING : Addr) (s_BOOLEAN : Addr) (s_UNIQUE_ID : Addr) (s_SEQUENCE : Addr) (s_SET : Addr) (s_INTEGER : Addr) (s_PADDING : Addr) (s_PROPERTY_LIST : Addr) (s_DATE : Addr) (s_BIT_STRING : Addr) (t_BIT_STRING_qualifierTag : Addr) (s_PROPERTY : Addr) (s_FIELD : Addr) (t_FIELD_qualifierTag : Addr) (s_COMPRESSED : Addr) (s_ENCRYPTED : Addr) (t_ENCRYPTED_qualifierTag : Addr) (s_MESSAGE : Addr) (t_MESSAGE_qualifierTag : Addr) (s_EXTENSION : Addr) (s_VENDOR_DEFINED : Addr) (K : Ctx Z h0 s_NO_OP s_END_OF_CONSTRUCTOR s_ASCII_STRING s_BOOLEAN s_UNIQUE_ID s_SEQUENCE s_SET s_INTEGER s_PADDING s_PROPERTY_LIST s_DATE s_BIT_STRING t_BIT_STRING_qualifierTag s_PROPERTY s_FIELD t_FIELD_qualifierTag s_COMPRESSED s_ENCRYPTED t_ENCRYPTED_qualifierTag s_MESSAGE t_MESSAGE_qualifierTag s_EXTENSION s_VENDOR_DEFINED) :
    MetFree l (⟨"com/example/plainwire/plainwire/rfc806/Element", "qualifierTag", "()Ljava/lang/String;"⟩ : MethodName) (head1 (Jvm.Cond.code (⟨"com/example/plainwire/plainwire/rfc806/Element", "qualifierTag", "()Ljava/lang/String;"⟩ : MethodName) prog_101_method_10_code 1 (some (.object "java/lang/String")) :: ws) ({ frames := 0, cells := 0, slots := 0, locals := 0 } : Room)) (fun a U => a = #[(.ref s_UNIQUE_ID)] ∧ Z.Warmed39 U.vm ∧ U.heap = h0) (fun _ _ _ _ _ => True) (fun _ U o U' => ∃ v L, o = .returned v ∧ QV .null h0 n0 v U'.heap L ∧ FrameEnd U o U' L ({ frames := 0, cells := 0, slots := 0, locals := 0 } : Room).cells ({ frames := 0, cells := 0, slots := 0, locals := 0 } : Room).slots) := by
  obtain ⟨S_NO_OP, F_NO_OP_code, E_NO_OP, F_NO_OP_qualifierTag, S_END_OF_CONSTRUCTOR, F_END_OF_CONSTRUCTOR_code, E_END_OF_CONSTRUCTOR, F_END_OF_CONSTRUCTOR_qualifierTag, S_ASCII_STRING, F_ASCII_STRING_code, E_ASCII_STRING, F_ASCII_STRING_qualifierTag, S_BOOLEAN, F_BOOLEAN_code, E_BOOLEAN, F_BOOLEAN_qualifierTag, S_UNIQUE_ID, F_UNIQUE_ID_code, E_UNIQUE_ID, F_UNIQUE_ID_qualifierTag, S_SEQUENCE, F_SEQUENCE_code, E_SEQUENCE, F_SEQUENCE_qualifierTag, S_SET, F_SET_code, E_SET, F_SET_qualifierTag, S_INTEGER, F_INTEGER_code, E_INTEGER, F_INTEGER_qualifierTag, S_PADDING, F_PADDING_code, E_PADDING, F_PADDING_qualifierTag, S_PROPERTY_LIST, F_PROPERTY_LIST_code, E_PROPERTY_LIST, F_PROPERTY_LIST_qualifierTag, S_DATE, F_DATE_code, E_DATE, F_DATE_qualifierTag, S_BIT_STRING, F_BIT_STRING_code, E_BIT_STRING, F_BIT_STRING_qualifierTag, S_PROPERTY, F_PROPERTY_code, E_PROPERTY, F_PROPERTY_qualifierTag, S_COMPRESSED, F_COMPRESSED_code, E_COMPRESSED, F_COMPRESSED_qualifierTag, S_ENCRYPTED, F_ENCRYPTED_code, E_ENCRYPTED, F_ENCRYPTED_qualifierTag, S_FIELD, F_FIELD_code, E_FIELD, F_FIELD_qualifierTag, S_MESSAGE, F_MESSAGE_code, E_MESSAGE, F_MESSAGE_qualifierTag, S_EXTENSION, F_EXTENSION_code, E_EXTENSION, F_EXTENSION_qualifierTag, S_VENDOR_DEFINED, F_VENDOR_DEFINED_code, E_VENDOR_DEFINED, F_VENDOR_DEFINED_qualifierTag⟩ := id K
  refine MetFree.of_bodySF (plainFor_of_name pn2) hisR ?_
  intro p e s m args below meth c s₁ Bd hml0 hP hK
  obtain ⟨rfl, hZ, hh⟩ := hP
  have hx := Bd.exec
  have hby := Bd.bytes
  have hml : c.maxLocals = 1 := hml0
  have hown : s.vm.findClass "com/example/plainwire/plainwire/rfc806/Element" = some m.cls := findClass_of_methodNamed Bd.named
  have X0 : Stand p l e ({ frames := 0, cells := 0, slots := 0, locals := 0 } : Room) s m #[(.ref s_UNIQUE_ID)] below meth c s₁ [] 0 0 := Stand.of_body Bd
  have e0 : s₁.heap = h0 := by rw [← hh, Bd.state]; rfl
  have N0 := Fr.nil n0
  have pre0 : ∀ t, Steps p.tables e below (s₁.setTop (mkF m 0 #[.val (.ref s_UNIQUE_ID)] [])) t → Steps p.tables e below (s₁.setTop (entryFrame m #[(.ref s_UNIQUE_ID)] 1)) t := fun t k => castTop (by first | (simp [entryFrame, mkF, argsToLocals, Value.category]; done) | rfl) k
  obtain ⟨T1, X1, e1, st1⟩ := getF X0 hx hZ hown (host := "") (Or.inl (hw _ (List.mem_of_getElem? (i := 20) rfl))) Via.refl e0 F_UNIQUE_ID_qualifierTag (g := (mkF m 1 #[.val (.ref s_UNIQUE_ID)] [(.ref s_UNIQUE_ID)])) rfl rfl (hb hby d2_1)
  obtain ⟨fs, hr, hrun, hended, hW, hsame⟩ := X1.leave (v := some .null) (fun h => by rw [Bd.returns] at h; cases h)
  refine ⟨_, _, pre0 _ ?_, hrun, hended, _, _, rfl, ?_, ⟨_, rfl⟩, hW, hsame.mono (by decide) (by decide)⟩
  · show Steps p.tables e below (s₁.setTop (mkF m 0 #[.val (.ref s_UNIQUE_ID)] [])) _
    refine XS.aloadN X0.here hx rfl (hb hby d2_0) rfl rfl ?_
    show Steps p.tables e below (s₁.setTop (mkF m 1 #[.val (.ref s_UNIQUE_ID)] [(.ref s_UNIQUE_ID)])) _
    refine st1 _ ?_
    show Steps p.tables e below (T1.setTop (mkF m 4 #[.val (.ref s_UNIQUE_ID)] [.null])) _
    exact retOut X1 hx (i := .areturn) Bd.returns rfl (Or.inr (Or.inr (Or.inr (Or.inr ⟨rfl, rfl, rfl⟩)))) (hb hby d2_4) hr
  · exact ⟨rfl, N0, e1⟩
set_option maxRecDepth 65536 in
set_option maxHeartbeats 40000000 in
theorem law_k4 (l : Launch) (Z : State) (a0 : Array Value) (hw : ∀ d ∈ tables_1, d.before a0 Z = true) (ws : List Jvm.Cond) (h0 : Heap) (n0 : Nat) (s_NO_OP : Addr) (s_END_OF_CONSTRUCTOR : Addr) (s_ASCII_STRING : Addr) (s_BOOLEAN : Addr) (s_UNIQUE_ID : Addr) (s_SEQUENCE : Addr) (s_SET : Addr) (s_INTEGER : Addr) (s_PADDING : Addr) (s_PROPERTY_LIST : Addr) (s_DATE : Addr) (s_BIT_STRING : Addr) (t_BIT_STRING_qualifierTag : Addr) (s_PROPERTY : Addr) (s_FIELD : Addr) (t_FIELD_qualifierTag : Addr) (s_COMPRESSED : Addr) (s_ENCRYPTED : Addr) (t_ENCRYPTED_qualifierTag : Addr) (s_MESSAGE : Addr) (t_MESSAGE_qualifierTag : Addr) (s_EXTENSION : Addr) (s_VENDOR_DEFINED : Addr) (K : Ctx Z h0 s_NO_OP s_END_OF_CONSTRUCTOR s_ASCII_STRING s_BOOLEAN s_UNIQUE_ID s_SEQUENCE s_SET s_INTEGER s_PADDING s_PROPERTY_LIST s_DATE s_BIT_STRING t_BIT_STRING_qualifierTag s_PROPERTY s_FIELD t_FIELD_qualifierTag s_COMPRESSED s_ENCRYPTED t_ENCRYPTED_qualifierTag s_MESSAGE t_MESSAGE_qualifierTag s_EXTENSION s_VENDOR_DEFINED) (p0 : Int32) (hp0 : ((p0 &&& (2147483647 : Int32)) % (19 : Int32)) = (4 : Int32)) :
    MetFree l x (head1 (Jvm.Cond.code x code maxLocals ret :: ws) room_1) (fun a U => a = #[(.int p0)] ∧ Z.Warmed39 U.vm ∧ U.heap = h0) (fun _ _ _ _ _ => True) (fun _ U o U' => ∃ v L, o = .returned v ∧ QV (.int (1 : Int32)) h0 n0 v U'.heap L ∧ FrameEnd U o U' L room_1.cells room_1.slots) := by
  obtain ⟨S_NO_OP, F_NO_OP_code, E_NO_OP, F_NO_OP_qualifierTag, S_END_OF_CONSTRUCTOR, F_END_OF_CONSTRUCTOR_code, E_END_OF_CONSTRUCTOR, F_END_OF_CONSTRUCTOR_qualifierTag, S_ASCII_STRING, F_ASCII_STRING_code, E_ASCII_STRING, F_ASCII_STRING_qualifierTag, S_BOOLEAN, F_BOOLEAN_code, E_BOOLEAN, F_BOOLEAN_qualifierTag, S_UNIQUE_ID, F_UNIQUE_ID_code, E_UNIQUE_ID, F_UNIQUE_ID_qualifierTag, S_SEQUENCE, F_SEQUENCE_code, E_SEQUENCE, F_SEQUENCE_qualifierTag, S_SET, F_SET_code, E_SET, F_SET_qualifierTag, S_INTEGER, F_INTEGER_code, E_INTEGER, F_INTEGER_qualifierTag, S_PADDING, F_PADDING_code, E_PADDING, F_PADDING_qualifierTag, S_PROPERTY_LIST, F_PROPERTY_LIST_code, E_PROPERTY_LIST, F_PROPERTY_LIST_qualifierTag, S_DATE, F_DATE_code, E_DATE, F_DATE_qualifierTag, S_BIT_STRING, F_BIT_STRING_code, E_BIT_STRING, F_BIT_STRING_qualifierTag, S_PROPERTY, F_PROPERTY_code, E_PROPERTY, F_PROPERTY_qualifierTag, S_COMPRESSED, F_COMPRESSED_code, E_COMPRESSED, F_COMPRESSED_qualifierTag, S_ENCRYPTED, F_ENCRYPTED_code, E_ENCRYPTED, F_ENCRYPTED_qualifierTag, S_FIELD, F_FIELD_code, E_FIELD, F_FIELD_qualifierTag, S_MESSAGE, F_MESSAGE_code, E_MESSAGE, F_MESSAGE_qualifierTag, S_EXTENSION, F_EXTENSION_code, E_EXTENSION, F_EXTENSION_qualifierTag, S_VENDOR_DEFINED, F_VENDOR_DEFINED_code, E_VENDOR_DEFINED, F_VENDOR_DEFINED_qualifierTag⟩ := id K
  refine MetFree.of_bodySF (plainFor_of_name pn3) hisR ?_
  intro p e s m args below meth c s₁ Bd hml0 hP hK
  obtain ⟨rfl, hZ, hh⟩ := hP
  have hx := Bd.exec
  have hby := Bd.bytes
  have hml : c.maxLocals = 6 := hml0
  have hown : s.vm.findClass "com/example/plainwire/plainwire/rfc806/ElementQualifiedPinLaw" = some m.cls := findClass_of_methodNamed Bd.named
  have X0 : Stand p l e room_1 s m #[(.int p0)] below meth c s₁ [] 0 0 := Stand.of_body Bd
  have e0 : s₁.heap = h0 := by rw [← hh, Bd.state]; rfl
  have N0 := Fr.nil n0
  have pre0 : ∀ t, Steps p.tables e below (s₁.setTop (mkF m 0 #[.val (.int p0), .unset, .unset, .unset, .unset, .unset] [])) t → Steps p.tables e below (s₁.setTop (entryFrame m #[(.int p0)] maxLocals)) t := fun t k => castTop (by first | (simp [entryFrame, mkF, argsToLocals, Value.category, maxLocals]; done) | rfl) k
  obtain ⟨_, _, ⟨T1, L1, k1, n1⟩, -, X1, ⟨Lc1, hQ1, l1, y1, z1⟩, st1⟩ := Jvm.LawKit.callS X0 hx (y := (⟨"com/example/plainwire/plainwire/rfc806/ElementQualifiedPinLaw", "pick", "(I)Lcom/example/plainwire/plainwire/rfc806/Element;"⟩ : MethodName)) hown (mvT hZ (hw _ (List.mem_of_getElem? (i := 1) rfl))) (mvT hZ (hw _ (List.mem_of_getElem? (i := 2) rfl))) (mvT hZ (hw _ (List.mem_of_getElem? (i := 3) rfl))) (mvT hZ (hw _ (List.mem_of_getElem? (i := 4) rfl))) (by decide) (backOf (W := 0) (r16 l Z a0 hw [] h0 n0 s_NO_OP s_END_OF_CONSTRUCTOR s_ASCII_STRING s_BOOLEAN s_UNIQUE_ID s_SEQUENCE s_SET s_INTEGER s_PADDING s_PROPERTY_LIST s_DATE s_BIT_STRING t_BIT_STRING_qualifierTag s_PROPERTY s_FIELD t_FIELD_qualifierTag s_COMPRESSED s_ENCRYPTED t_ENCRYPTED_qualifierTag s_MESSAGE t_MESSAGE_qualifierTag s_EXTENSION s_VENDOR_DEFINED K) hZ (hw _ (List.mem_of_getElem? (i := 4) rfl)) (hw _ (List.mem_of_getElem? (i := 3) rfl)) (by decide) (by decide)) (g := (mkF m 9 #[.val (.int p0), .val (.int (4 : Int32)), .unset, .unset, .unset, .unset] [(.int (4 : Int32))])) rfl (by rw [hml]; rfl) (argsL := [(.int (4 : Int32))]) (rest := []) (lenOf pd0 rfl) rfl (by show 2 * 0 + _ ≤ _; exact Nat.le_of_eq rfl) (hb hby at_9) (fun _ _ => ⟨rfl, e0, (by decide : 0 + 0 ≤ _), (by decide : 0 + 0 ≤ _)⟩)
  dsimp only [Pt.U, Pt.locs, Pt.cells, Pt.slots] at X1 l1 y1 z1 st1 hQ1
  subst l1 y1 z1
  obtain ⟨rfl, N1q, e1⟩ := hQ1
  have N1 := Fr.app N0 N1q
  obtain ⟨cq2, kq2, q2a, q2b, q2c⟩ := isOf hZ e1 E_UNIQUE_ID
  obtain ⟨_, _, ⟨T2, L2, k2, n2⟩, -, X2, ⟨Lc2, hQ2, l2, y2, z2⟩, st2⟩ := X1.virtualBack hx (y := (⟨"com/example/plainwire/plainwire/rfc806/Element", "qualified", "()Z"⟩ : MethodName)) (z := (⟨"com/example/plainwire/plainwire/rfc806/Element", "qualified", "()Z"⟩ : MethodName)) hown (mvT hZ (hw _ (List.mem_of_getElem? (i := 8) rfl))) (mvT hZ (hw _ (List.mem_of_getElem? (i := 9) rfl))) (notFace_of_selects (args := #[]) (mvT hZ (hw _ (List.mem_of_getElem? (i := 11) rfl)))) (mvT hZ (hw _ (List.mem_of_getElem? (i := 11) rfl))) (mvT hZ (hw _ (List.mem_of_getElem? (i := 10) rfl))) (by decide) (backOf (W := 0) (r17 l Z a0 hw [] h0 n0 s_NO_OP s_END_OF_CONSTRUCTOR s_ASCII_STRING s_BOOLEAN s_UNIQUE_ID s_SEQUENCE s_SET s_INTEGER s_PADDING s_PROPERTY_LIST s_DATE s_BIT_STRING t_BIT_STRING_qualifierTag s_PROPERTY s_FIELD t_FIELD_qualifierTag s_COMPRESSED s_ENCRYPTED t_ENCRYPTED_qualifierTag s_MESSAGE t_MESSAGE_qualifierTag s_EXTENSION s_VENDOR_DEFINED K) hZ (hw _ (List.mem_of_getElem? (i := 12) rfl)) (hw _ (List.mem_of_getElem? (i := 6) rfl)) (by decide) (by decide)) q2a q2c (g := (mkF m 26 #[.val (.int p0), .val (.int (4 : Int32)), .val (.ref s_UNIQUE_ID), .val (.int (0 : Int32)), .unset, .unset] [(.ref s_UNIQUE_ID)])) rfl (by rw [hml]; rfl) (Steps.refl _) (argsL := []) (rest := []) (lenOf pd1 rfl) rfl (by show 2 * 0 + _ ≤ _; exact Nat.le_of_eq rfl) (hb hby at_26) (fun _ _ => ⟨rfl, e1, (by decide : 0 + 0 ≤ _), (by decide : 0 + 0 ≤ _)⟩)
  dsimp only [Pt.U, Pt.locs, Pt.cells, Pt.slots] at X2 l2 y2 z2 st2 hQ2
  subst l2 y2 z2
  obtain ⟨rfl, N2q, e2⟩ := hQ2
  have N2 := Fr.app N1 N2q
  obtain ⟨cq3, kq3, q3a, q3b, q3c⟩ := isOf hZ e2 E_UNIQUE_ID
  obtain ⟨_, _, ⟨T3, L3, k3, n3⟩, -, X3, ⟨Lc3, hQ3, l3, y3, z3⟩, st3⟩ := X2.virtualBack hx (y := (⟨"com/example/plainwire/plainwire/rfc806/Element", "qualifierTag", "()Ljava/lang/String;"⟩ : MethodName)) (z := (⟨"com/example/plainwire/plainwire/rfc806/Element", "qualifierTag", "()Ljava/lang/String;"⟩ : MethodName)) hown (mvT hZ (hw _ (List.mem_of_getElem? (i := 15) rfl))) (mvT hZ (hw _ (List.mem_of_getElem? (i := 16) rfl))) (notFace_of_selects (args := #[]) (mvT hZ (hw _ (List.mem_of_getElem? (i := 18) rfl)))) (mvT hZ (hw _ (List.mem_of_getElem? (i := 18) rfl))) (mvT hZ (hw _ (List.mem_of_getElem? (i := 17) rfl))) (by decide) (backOf (W := 0) (r18 l Z a0 hw [] h0 n0 s_NO_OP s_END_OF_CONSTRUCTOR s_ASCII_STRING s_BOOLEAN s_UNIQUE_ID s_SEQUENCE s_SET s_INTEGER s_PADDING s_PROPERTY_LIST s_DATE s_BIT_STRING t_BIT_STRING_qualifierTag s_PROPERTY s_FIELD t_FIELD_qualifierTag s_COMPRESSED s_ENCRYPTED t_ENCRYPTED_qualifierTag s_MESSAGE t_MESSAGE_qualifierTag s_EXTENSION s_VENDOR_DEFINED K) hZ (hw _ (List.mem_of_getElem? (i := 19) rfl)) (hw _ (List.mem_of_getElem? (i := 6) rfl)) (by decide) (by decide)) q3a q3c (g := (mkF m 32 #[.val (.int p0), .val (.int (4 : Int32)), .val (.ref s_UNIQUE_ID), .val (.int (0 : Int32)), .val (.int (0 : Int32)), .unset] [(.ref s_UNIQUE_ID)])) rfl (by rw [hml]; rfl) (Steps.refl _) (argsL := []) (rest := []) (lenOf pd2 rfl) rfl (by show 2 * 0 + _ ≤ _; exact Nat.le_of_eq rfl) (hb hby at_32) (fun _ _ => ⟨rfl, e2, (by decide : 0 + 0 ≤ _), (by decide : 0 + 0 ≤ _)⟩)
  dsimp only [Pt.U, Pt.locs, Pt.cells, Pt.slots] at X3 l3 y3 z3 st3 hQ3
  subst l3 y3 z3
  obtain ⟨rfl, N3q, e3⟩ := hQ3
  have N3 := Fr.app N2 N3q
  obtain ⟨fs, hr, hrun, hended, hW, hsame⟩ := X3.leave (v := some (.int (1 : Int32))) (fun h => by rw [Bd.returns] at h; cases h)
  refine ⟨_, _, pre0 _ ?_, hrun, hended, _, _, rfl, ?_, ⟨_, rfl⟩, hW, hsame.mono (by decide) (by decide)⟩
  · show Steps p.tables e below (s₁.setTop (mkF m 0 #[.val (.int p0), .unset, .unset, .unset, .unset, .unset] [])) _
    refine XS.iloadN X0.here hx rfl (hb hby at_0) rfl ?_
    show Steps p.tables e below (s₁.setTop (mkF m 1 #[.val (.int p0), .unset, .unset, .unset, .unset, .unset] [(.int p0)])) _
    refine X0.ldcInt hx hown (mvT hZ (hw _ (List.mem_of_getElem? (i := 0) rfl))) (g := (mkF m 1 #[.val (.int p0), .unset, .unset, .unset, .unset, .unset] [(.int p0)])) rfl (hb hby at_1) _ ?_
    show Steps p.tables e below (s₁.setTop (mkF m 3 #[.val (.int p0), .unset, .unset, .unset, .unset, .unset] [(.int (2147483647 : Int32)), (.int p0)])) _
    refine XS.iand X0.here hx rfl (hb hby at_3) rfl ?_
    show Steps p.tables e below (s₁.setTop (mkF m 4 #[.val (.int p0), .unset, .unset, .unset, .unset, .unset] [(.int (p0 &&& (2147483647 : Int32)))])) _
    refine XS.bipush X0.here hx rfl (hb hby at_4) ?_
    show Steps p.tables e below (s₁.setTop (mkF m 6 #[.val (.int p0), .unset, .unset, .unset, .unset, .unset] [(.int (19 : Int32)), (.int (p0 &&& (2147483647 : Int32)))])) _
    refine Jvm.RoadKit.iremM X0 hx rfl (hb hby at_6) rfl (by decide) ?_
    show Steps p.tables e below (s₁.setTop (mkF m 7 #[.val (.int p0), .unset, .unset, .unset, .unset, .unset] [(.int ((p0 &&& (2147483647 : Int32)) % (19 : Int32)))])) _
    rw [hp0]
    show Steps p.tables e below (s₁.setTop (mkF m 7 #[.val (.int p0), .unset, .unset, .unset, .unset, .unset] [(.int (4 : Int32))])) _
    refine XS.istoreN X0.here hx rfl (hb hby at_7) rfl (l' := #[.val (.int p0), .val (.int (4 : Int32)), .unset, .unset, .unset, .unset]) rfl ?_
    show Steps p.tables e below (s₁.setTop (mkF m 8 #[.val (.int p0), .val (.int (4 : Int32)), .unset, .unset, .unset, .unset] [])) _
    refine XS.iloadN X0.here hx rfl (hb hby at_8) rfl ?_
    show Steps p.tables e below (s₁.setTop (mkF m 9 #[.val (.int p0), .val (.int (4 : Int32)), .unset, .unset, .unset, .unset] [(.int (4 : Int32))])) _
    refine st1 _ ?_
    show Steps p.tables e below (T1.setTop (mkF m 12 #[.val (.int p0), .val (.int (4 : Int32)), .unset, .unset, .unset, .unset] [(.ref s_UNIQUE_ID)])) _
    refine XS.astoreN X1.here hx rfl (hb hby at_12) rfl rfl (l' := #[.val (.int p0), .val (.int (4 : Int32)), .val (.ref s_UNIQUE_ID), .unset, .unset, .unset]) rfl ?_
    show Steps p.tables e below (T1.setTop (mkF m 13 #[.val (.int p0), .val (.int (4 : Int32)), .val (.ref s_UNIQUE_ID), .unset, .unset, .unset] [])) _
    refine XS.iloadN X1.here hx rfl (hb hby at_13) rfl ?_
    show Steps p.tables e below (T1.setTop (mkF m 14 #[.val (.int p0), .val (.int (4 : Int32)), .val (.ref s_UNIQUE_ID), .unset, .unset, .unset] [(.int (4 : Int32))])) _
    refine XS.bipush X1.here hx rfl (hb hby at_14) ?_
    show Steps p.tables e below (T1.setTop (mkF m 16 #[.val (.int p0), .val (.int (4 : Int32)), .val (.ref s_UNIQUE_ID), .unset, .unset, .unset] [(.int (11 : Int32)), (.int (4 : Int32))])) _
    refine XS.icmpYes X1.here hx rfl (pc0 := 16) (pc' := 23) rfl (hb hby at_16) rfl (by decide +kernel) (by decide) (by decide) ?_
    show Steps p.tables e below (T1.setTop (mkF m 23 #[.val (.int p0), .val (.int (4 : Int32)), .val (.ref s_UNIQUE_ID), .unset, .unset, .unset] [])) _
    refine XS.iconst X1.here hx rfl (hb hby at_23) ?_
    show Steps p.tables e below (T1.setTop (mkF m 24 #[.val (.int p0), .val (.int (4 : Int32)), .val (.ref s_UNIQUE_ID), .unset, .unset, .unset] [(.int (0 : Int32))])) _
    refine XS.istoreN X1.here hx rfl (hb hby at_24) rfl (l' := #[.val (.int p0), .val (.int (4 : Int32)), .val (.ref s_UNIQUE_ID), .val (.int (0 : Int32)), .unset, .unset]) rfl ?_
    show Steps p.tables e below (T1.setTop (mkF m 25 #[.val (.int p0), .val (.int (4 : Int32)), .val (.ref s_UNIQUE_ID), .val (.int (0 : Int32)), .unset, .unset] [])) _
    refine XS.aloadN X1.here hx rfl (hb hby at_25) rfl rfl ?_
    show Steps p.tables e below (T1.setTop (mkF m 26 #[.val (.int p0), .val (.int (4 : Int32)), .val (.ref s_UNIQUE_ID), .val (.int (0 : Int32)), .unset, .unset] [(.ref s_UNIQUE_ID)])) _
    refine st2.trans ?_
    show Steps p.tables e below (T2.setTop (mkF m 29 #[.val (.int p0), .val (.int (4 : Int32)), .val (.ref s_UNIQUE_ID), .val (.int (0 : Int32)), .unset, .unset] [(.int (0 : Int32))])) _
    refine XS.istore X2.here hx rfl (hb hby at_29) rfl (l' := #[.val (.int p0), .val (.int (4 : Int32)), .val (.ref s_UNIQUE_ID), .val (.int (0 : Int32)), .val (.int (0 : Int32)), .unset]) rfl ?_
    show Steps p.tables e below (T2.setTop (mkF m 31 #[.val (.int p0), .val (.int (4 : Int32)), .val (.ref s_UNIQUE_ID), .val (.int (0 : Int32)), .val (.int (0 : Int32)), .unset] [])) _
    refine XS.aloadN X2.here hx rfl (hb hby at_31) rfl rfl ?_
    show Steps p.tables e below (T2.setTop (mkF m 32 #[.val (.int p0), .val (.int (4 : Int32)), .val (.ref s_UNIQUE_ID), .val (.int (0 : Int32)), .val (.int (0 : Int32)), .unset] [(.ref s_UNIQUE_ID)])) _
    refine st3.trans ?_
    show Steps p.tables e below (T3.setTop (mkF m 35 #[.val (.int p0), .val (.int (4 : Int32)), .val (.ref s_UNIQUE_ID), .val (.int (0 : Int32)), .val (.int (0 : Int32)), .unset] [.null])) _
    refine XS.ifnullYes X3.here hx rfl (pc0 := 35) (pc' := 42) rfl (hb hby at_35) rfl (by decide) (by decide) ?_
    show Steps p.tables e below (T3.setTop (mkF m 42 #[.val (.int p0), .val (.int (4 : Int32)), .val (.ref s_UNIQUE_ID), .val (.int (0 : Int32)), .val (.int (0 : Int32)), .unset] [])) _
    refine XS.iconst X3.here hx rfl (hb hby at_42) ?_
    show Steps p.tables e below (T3.setTop (mkF m 43 #[.val (.int p0), .val (.int (4 : Int32)), .val (.ref s_UNIQUE_ID), .val (.int (0 : Int32)), .val (.int (0 : Int32)), .unset] [(.int (0 : Int32))])) _
    refine XS.istore X3.here hx rfl (hb hby at_43) rfl (l' := #[.val (.int p0), .val (.int (4 : Int32)), .val (.ref s_UNIQUE_ID), .val (.int (0 : Int32)), .val (.int (0 : Int32)), .val (.int (0 : Int32))]) rfl ?_
    show Steps p.tables e below (T3.setTop (mkF m 45 #[.val (.int p0), .val (.int (4 : Int32)), .val (.ref s_UNIQUE_ID), .val (.int (0 : Int32)), .val (.int (0 : Int32)), .val (.int (0 : Int32))] [])) _
    refine XS.iload X3.here hx rfl (hb hby at_45) rfl ?_
    show Steps p.tables e below (T3.setTop (mkF m 47 #[.val (.int p0), .val (.int (4 : Int32)), .val (.ref s_UNIQUE_ID), .val (.int (0 : Int32)), .val (.int (0 : Int32)), .val (.int (0 : Int32))] [(.int (0 : Int32))])) _
    refine XS.iloadN X3.here hx rfl (hb hby at_47) rfl ?_
    show Steps p.tables e below (T3.setTop (mkF m 48 #[.val (.int p0), .val (.int (4 : Int32)), .val (.ref s_UNIQUE_ID), .val (.int (0 : Int32)), .val (.int (0 : Int32)), .val (.int (0 : Int32))] [(.int (0 : Int32)), (.int (0 : Int32))])) _
    refine XS.icmpNo X3.here hx rfl (hb hby at_48) rfl (by decide +kernel) ?_
    show Steps p.tables e below (T3.setTop (mkF m 51 #[.val (.int p0), .val (.int (4 : Int32)), .val (.ref s_UNIQUE_ID), .val (.int (0 : Int32)), .val (.int (0 : Int32)), .val (.int (0 : Int32))] [])) _
    refine XS.iload X3.here hx rfl (hb hby at_51) rfl ?_
    show Steps p.tables e below (T3.setTop (mkF m 53 #[.val (.int p0), .val (.int (4 : Int32)), .val (.ref s_UNIQUE_ID), .val (.int (0 : Int32)), .val (.int (0 : Int32)), .val (.int (0 : Int32))] [(.int (0 : Int32))])) _
    refine XS.iload X3.here hx rfl (hb hby at_53) rfl ?_
    show Steps p.tables e below (T3.setTop (mkF m 55 #[.val (.int p0), .val (.int (4 : Int32)), .val (.ref s_UNIQUE_ID), .val (.int (0 : Int32)), .val (.int (0 : Int32)), .val (.int (0 : Int32))] [(.int (0 : Int32)), (.int (0 : Int32))])) _
    refine XS.icmpNo X3.here hx rfl (hb hby at_55) rfl (by decide +kernel) ?_
    show Steps p.tables e below (T3.setTop (mkF m 58 #[.val (.int p0), .val (.int (4 : Int32)), .val (.ref s_UNIQUE_ID), .val (.int (0 : Int32)), .val (.int (0 : Int32)), .val (.int (0 : Int32))] [])) _
    refine XS.iconst X3.here hx rfl (hb hby at_58) ?_
    show Steps p.tables e below (T3.setTop (mkF m 59 #[.val (.int p0), .val (.int (4 : Int32)), .val (.ref s_UNIQUE_ID), .val (.int (0 : Int32)), .val (.int (0 : Int32)), .val (.int (0 : Int32))] [(.int (1 : Int32))])) _
    refine XS.goto X3.here hx rfl (pc0 := 59) (pc' := 63) rfl (hb hby at_59) (by decide) (by decide) ?_
    show Steps p.tables e below (T3.setTop (mkF m 63 #[.val (.int p0), .val (.int (4 : Int32)), .val (.ref s_UNIQUE_ID), .val (.int (0 : Int32)), .val (.int (0 : Int32)), .val (.int (0 : Int32))] [(.int (1 : Int32))])) _
    exact retN X3 hx (t := .boolean) Bd.returns (by simp) (hb hby at_63) hr
  · exact ⟨rfl, N3, e3⟩
set_option maxRecDepth 65536 in
set_option maxHeartbeats 40000000 in
theorem r20 (l : Launch) (Z : State) (a0 : Array Value) (hw : ∀ d ∈ tables_1, d.before a0 Z = true) (ws : List Jvm.Cond) (h0 : Heap) (n0 : Nat) (s_NO_OP : Addr) (s_END_OF_CONSTRUCTOR : Addr) (s_ASCII_STRING : Addr) (s_BOOLEAN : Addr) (s_UNIQUE_ID : Addr) (s_SEQUENCE : Addr) (s_SET : Addr) (s_INTEGER : Addr) (s_PADDING : Addr) (s_PROPERTY_LIST : Addr) (s_DATE : Addr) (s_BIT_STRING : Addr) (t_BIT_STRING_qualifierTag : Addr) (s_PROPERTY : Addr) (s_FIELD : Addr) (t_FIELD_qualifierTag : Addr) (s_COMPRESSED : Addr) (s_ENCRYPTED : Addr) (t_ENCRYPTED_qualifierTag : Addr) (s_MESSAGE : Addr) (t_MESSAGE_qualifierTag : Addr) (s_EXTENSION : Addr) (s_VENDOR_DEFINED : Addr) (K : Ctx Z h0 s_NO_OP s_END_OF_CONSTRUCTOR s_ASCII_STRING s_BOOLEAN s_UNIQUE_ID s_SEQUENCE s_SET s_INTEGER s_PADDING s_PROPERTY_LIST s_DATE s_BIT_STRING t_BIT_STRING_qualifierTag s_PROPERTY s_FIELD t_FIELD_qualifierTag s_COMPRESSED s_ENCRYPTED t_ENCRYPTED_qualifierTag s_MESSAGE t_MESSAGE_qualifierTag s_EXTENSION s_VENDOR_DEFINED) :
    MetFree l (⟨"com/example/plainwire/plainwire/rfc806/ElementQualifiedPinLaw", "pick", "(I)Lcom/example/plainwire/plainwire/rfc806/Element;"⟩ : MethodName) (head1 (Jvm.Cond.code (⟨"com/example/plainwire/plainwire/rfc806/ElementQualifiedPinLaw", "pick", "(I)Lcom/example/plainwire/plainwire/rfc806/Element;"⟩ : MethodName) method_2_code 1 (some (.object "com/example/plainwire/plainwire/rfc806/Element")) :: ws) ({ frames := 0, cells := 0, slots := 0, locals := 0 } : Room)) (fun a U => a = #[(.int (5 : Int32))] ∧ Z.Warmed39 U.vm ∧ U.heap = h0) (fun _ _ _ _ _ => True) (fun _ U o U' => ∃ v L, o = .returned v ∧ QV (.ref s_SEQUENCE) h0 n0 v U'.heap L ∧ FrameEnd U o U' L ({ frames := 0, cells := 0, slots := 0, locals := 0 } : Room).cells ({ frames := 0, cells := 0, slots := 0, locals := 0 } : Room).slots) := by
  obtain ⟨S_NO_OP, F_NO_OP_code, E_NO_OP, F_NO_OP_qualifierTag, S_END_OF_CONSTRUCTOR, F_END_OF_CONSTRUCTOR_code, E_END_OF_CONSTRUCTOR, F_END_OF_CONSTRUCTOR_qualifierTag, S_ASCII_STRING, F_ASCII_STRING_code, E_ASCII_STRING, F_ASCII_STRING_qualifierTag, S_BOOLEAN, F_BOOLEAN_code, E_BOOLEAN, F_BOOLEAN_qualifierTag, S_UNIQUE_ID, F_UNIQUE_ID_code, E_UNIQUE_ID, F_UNIQUE_ID_qualifierTag, S_SEQUENCE, F_SEQUENCE_code, E_SEQUENCE, F_SEQUENCE_qualifierTag, S_SET, F_SET_code, E_SET, F_SET_qualifierTag, S_INTEGER, F_INTEGER_code, E_INTEGER, F_INTEGER_qualifierTag, S_PADDING, F_PADDING_code, E_PADDING, F_PADDING_qualifierTag, S_PROPERTY_LIST, F_PROPERTY_LIST_code, E_PROPERTY_LIST, F_PROPERTY_LIST_qualifierTag, S_DATE, F_DATE_code, E_DATE, F_DATE_qualifierTag, S_BIT_STRING, F_BIT_STRING_code, E_BIT_STRING, F_BIT_STRING_qualifierTag, S_PROPERTY, F_PROPERTY_code, E_PROPERTY, F_PROPERTY_qualifierTag, S_COMPRESSED, F_COMPRESSED_code, E_COMPRESSED, F_COMPRESSED_qualifierTag, S_ENCRYPTED, F_ENCRYPTED_code, E_ENCRYPTED, F_ENCRYPTED_qualifierTag, S_FIELD, F_FIELD_code, E_FIELD, F_FIELD_qualifierTag, S_MESSAGE, F_MESSAGE_code, E_MESSAGE, F_MESSAGE_qualifierTag, S_EXTENSION, F_EXTENSION_code, E_EXTENSION, F_EXTENSION_qualifierTag, S_VENDOR_DEFINED, F_VENDOR_DEFINED_code, E_VENDOR_DEFINED, F_VENDOR_DEFINED_qualifierTag⟩ := id K
  refine MetFree.of_bodySF (plainFor_of_name pn0) hisR ?_
  intro p e s m args below meth c s₁ Bd hml0 hP hK
  obtain ⟨rfl, hZ, hh⟩ := hP
  have hx := Bd.exec
  have hby := Bd.bytes
  have hml : c.maxLocals = 1 := hml0
  have hown : s.vm.findClass "com/example/plainwire/plainwire/rfc806/ElementQualifiedPinLaw" = some m.cls := findClass_of_methodNamed Bd.named
  have X0 : Stand p l e ({ frames := 0, cells := 0, slots := 0, locals := 0 } : Room) s m #[(.int (5 : Int32))] below meth c s₁ [] 0 0 := Stand.of_body Bd
  have e0 : s₁.heap = h0 := by rw [← hh, Bd.state]; rfl
  have N0 := Fr.nil n0
  have pre0 : ∀ t, Steps p.tables e below (s₁.setTop (mkF m 0 #[.val (.int (5 : Int32))] [])) t → Steps p.tables e below (s₁.setTop (entryFrame m #[(.int (5 : Int32))] 1)) t := fun t k => castTop (by first | (simp [entryFrame, mkF, argsToLocals, Value.category]; done) | rfl) k
  obtain ⟨T1, X1, e1, st1⟩ := getS X0 hx hZ hown (host := "") (hw _ (List.mem_of_getElem? (i := 26) rfl)) Via.refl e0 S_SEQUENCE (g := (mkF m 49 #[.val (.int (5 : Int32))] [])) rfl (hb hby d0_49)
  obtain ⟨fs, hr, hrun, hended, hW, hsame⟩ := X1.leave (v := some (.ref s_SEQUENCE)) (fun h => by rw [Bd.returns] at h; cases h)
  refine ⟨_, _, pre0 _ ?_, hrun, hended, _, _, rfl, ?_, ⟨_, rfl⟩, hW, hsame.mono (by decide) (by decide)⟩
  · show Steps p.tables e below (s₁.setTop (mkF m 0 #[.val (.int (5 : Int32))] [])) _
    refine XS.iloadN X0.here hx rfl (hb hby d0_0) rfl ?_
    show Steps p.tables e below (s₁.setTop (mkF m 1 #[.val (.int (5 : Int32))] [(.int (5 : Int32))])) _
    refine XS.ifYes X0.here hx rfl (pc0 := 1) (pc' := 8) rfl (hb hby d0_1) rfl (by decide +kernel) (by decide) (by decide) ?_
    show Steps p.tables e below (s₁.setTop (mkF m 8 #[.val (.int (5 : Int32))] [])) _
    refine XS.iloadN X0.here hx rfl (hb hby d0_8) rfl ?_
    show Steps p.tables e below (s₁.setTop (mkF m 9 #[.val (.int (5 : Int32))] [(.int (5 : Int32))])) _
    refine XS.iconst X0.here hx rfl (hb hby d0_9) ?_
    show Steps p.tables e below (s₁.setTop (mkF m 10 #[.val (.int (5 : Int32))] [(.int (1 : Int32)), (.int (5 : Int32))])) _
    refine XS.icmpYes X0.here hx rfl (pc0 := 10) (pc' := 17) rfl (hb hby d0_10) rfl (by decide +kernel) (by decide) (by decide) ?_
    show Steps p.tables e below (s₁.setTop (mkF m 17 #[.val (.int (5 : Int32))] [])) _
    refine XS.iloadN X0.here hx rfl (hb hby d0_17) rfl ?_
    show Steps p.tables e below (s₁.setTop (mkF m 18 #[.val (.int (5 : Int32))] [(.int (5 : Int32))])) _
    refine XS.iconst X0.here hx rfl (hb hby d0_18) ?_
    show Steps p.tables e below (s₁.setTop (mkF m 19 #[.val (.int (5 : Int32))] [(.int (2 : Int32)), (.int (5 : Int32))])) _
    refine XS.icmpYes X0.here hx rfl (pc0 := 19) (pc' := 26) rfl (hb hby d0_19) rfl (by decide +kernel) (by decide) (by decide) ?_
    show Steps p.tables e below (s₁.setTop (mkF m 26 #[.val (.int (5 : Int32))] [])) _
    refine XS.iloadN X0.here hx rfl (hb hby d0_26) rfl ?_
    show Steps p.tables e below (s₁.setTop (mkF m 27 #[.val (.int (5 : Int32))] [(.int (5 : Int32))])) _
    refine XS.iconst X0.here hx rfl (hb hby d0_27) ?_
    show Steps p.tables e below (s₁.setTop (mkF m 28 #[.val (.int (5 : Int32))] [(.int (3 : Int32)), (.int (5 : Int32))])) _
    refine XS.icmpYes X0.here hx rfl (pc0 := 28) (pc' := 35) rfl (hb hby d0_28) rfl (by decide +kernel) (by decide) (by decide) ?_
    show Steps p.tables e below (s₁.setTop (mkF m 35 #[.val (.int (5 : Int32))] [])) _
    refine XS.iloadN X0.here hx rfl (hb hby d0_35) rfl ?_
    show Steps p.tables e below (s₁.setTop (mkF m 36 #[.val (.int (5 : Int32))] [(.int (5 : Int32))])) _
    refine XS.iconst X0.here hx rfl (hb hby d0_36) ?_
    show Steps p.tables e below (s₁.setTop (mkF m 37 #[.val (.int (5 : Int32))] [(.int (4 : Int32)), (.int (5 : Int32))])) _
    refine XS.icmpYes X0.here hx rfl (pc0 := 37) (pc' := 44) rfl (hb hby d0_37) rfl (by decide +kernel) (by decide) (by decide) ?_
    show Steps p.tables e below (s₁.setTop (mkF m 44 #[.val (.int (5 : Int32))] [])) _
    refine XS.iloadN X0.here hx rfl (hb hby d0_44) rfl ?_
    show Steps p.tables e below (s₁.setTop (mkF m 45 #[.val (.int (5 : Int32))] [(.int (5 : Int32))])) _
    refine XS.iconst X0.here hx rfl (hb hby d0_45) ?_
    show Steps p.tables e below (s₁.setTop (mkF m 46 #[.val (.int (5 : Int32))] [(.int (5 : Int32)), (.int (5 : Int32))])) _
    refine XS.icmpNo X0.here hx rfl (hb hby d0_46) rfl (by decide +kernel) ?_
    show Steps p.tables e below (s₁.setTop (mkF m 49 #[.val (.int (5 : Int32))] [])) _
    refine st1 _ ?_
    show Steps p.tables e below (T1.setTop (mkF m 52 #[.val (.int (5 : Int32))] [(.ref s_SEQUENCE)])) _
    exact retOut X1 hx (i := .areturn) Bd.returns rfl (Or.inr (Or.inr (Or.inr (Or.inr ⟨rfl, rfl, rfl⟩)))) (hb hby d0_52) hr
  · exact ⟨rfl, N0, e1⟩
set_option maxRecDepth 65536 in
set_option maxHeartbeats 40000000 in
theorem r21 (l : Launch) (Z : State) (a0 : Array Value) (hw : ∀ d ∈ tables_1, d.before a0 Z = true) (ws : List Jvm.Cond) (h0 : Heap) (n0 : Nat) (s_NO_OP : Addr) (s_END_OF_CONSTRUCTOR : Addr) (s_ASCII_STRING : Addr) (s_BOOLEAN : Addr) (s_UNIQUE_ID : Addr) (s_SEQUENCE : Addr) (s_SET : Addr) (s_INTEGER : Addr) (s_PADDING : Addr) (s_PROPERTY_LIST : Addr) (s_DATE : Addr) (s_BIT_STRING : Addr) (t_BIT_STRING_qualifierTag : Addr) (s_PROPERTY : Addr) (s_FIELD : Addr) (t_FIELD_qualifierTag : Addr) (s_COMPRESSED : Addr) (s_ENCRYPTED : Addr) (t_ENCRYPTED_qualifierTag : Addr) (s_MESSAGE : Addr) (t_MESSAGE_qualifierTag : Addr) (s_EXTENSION : Addr) (s_VENDOR_DEFINED : Addr) (K : Ctx Z h0 s_NO_OP s_END_OF_CONSTRUCTOR s_ASCII_STRING s_BOOLEAN s_UNIQUE_ID s_SEQUENCE s_SET s_INTEGER s_PADDING s_PROPERTY_LIST s_DATE s_BIT_STRING t_BIT_STRING_qualifierTag s_PROPERTY s_FIELD t_FIELD_qualifierTag s_COMPRESSED s_ENCRYPTED t_ENCRYPTED_qualifierTag s_MESSAGE t_MESSAGE_qualifierTag s_EXTENSION s_VENDOR_DEFINED) :
    MetFree l (⟨"com/example/plainwire/plainwire/rfc806/Element", "qualified", "()Z"⟩ : MethodName) (head1 (Jvm.Cond.code (⟨"com/example/plainwire/plainwire/rfc806/Element", "qualified", "()Z"⟩ : MethodName) prog_101_method_9_code 1 (some .boolean) :: ws) ({ frames := 0, cells := 0, slots := 0, locals := 0 } : Room)) (fun a U => a = #[(.ref s_SEQUENCE)] ∧ Z.Warmed39 U.vm ∧ U.heap = h0) (fun _ _ _ _ _ => True) (fun _ U o U' => ∃ v L, o = .returned v ∧ QV (.int (0 : Int32)) h0 n0 v U'.heap L ∧ FrameEnd U o U' L ({ frames := 0, cells := 0, slots := 0, locals := 0 } : Room).cells ({ frames := 0, cells := 0, slots := 0, locals := 0 } : Room).slots) := by
  obtain ⟨S_NO_OP, F_NO_OP_code, E_NO_OP, F_NO_OP_qualifierTag, S_END_OF_CONSTRUCTOR, F_END_OF_CONSTRUCTOR_code, E_END_OF_CONSTRUCTOR, F_END_OF_CONSTRUCTOR_qualifierTag, S_ASCII_STRING, F_ASCII_STRING_code, E_ASCII_STRING, F_ASCII_STRING_qualifierTag, S_BOOLEAN, F_BOOLEAN_code, E_BOOLEAN, F_BOOLEAN_qualifierTag, S_UNIQUE_ID, F_UNIQUE_ID_code, E_UNIQUE_ID, F_UNIQUE_ID_qualifierTag, S_SEQUENCE, F_SEQUENCE_code, E_SEQUENCE, F_SEQUENCE_qualifierTag, S_SET, F_SET_code, E_SET, F_SET_qualifierTag, S_INTEGER, F_INTEGER_code, E_INTEGER, F_INTEGER_qualifierTag, S_PADDING, F_PADDING_code, E_PADDING, F_PADDING_qualifierTag, S_PROPERTY_LIST, F_PROPERTY_LIST_code, E_PROPERTY_LIST, F_PROPERTY_LIST_qualifierTag, S_DATE, F_DATE_code, E_DATE, F_DATE_qualifierTag, S_BIT_STRING, F_BIT_STRING_code, E_BIT_STRING, F_BIT_STRING_qualifierTag, S_PROPERTY, F_PROPERTY_code, E_PROPERTY, F_PROPERTY_qualifierTag, S_COMPRESSED, F_COMPRESSED_code, E_COMPRESSED, F_COMPRESSED_qualifierTag, S_ENCRYPTED, F_ENCRYPTED_code, E_ENCRYPTED, F_ENCRYPTED_qualifierTag, S_FIELD, F_FIELD_code, E_FIELD, F_FIELD_qualifierTag, S_MESSAGE, F_MESSAGE_code, E_MESSAGE, F_MESSAGE_qualifierTag, S_EXTENSION, F_EXTENSION_code, E_EXTENSION, F_EXTENSION_qualifierTag, S_VENDOR_DEFINED, F_VENDOR_DEFINED_code, E_VENDOR_DEFINED, F_VENDOR_DEFINED_qualifierTag⟩ := id K
  refine MetFree.of_bodySF (plainFor_of_name pn1) hisR ?_
  intro p e s m args below meth c s₁ Bd hml0 hP hK
  obtain ⟨rfl, hZ, hh⟩ := hP
  have hx := Bd.exec
  have hby := Bd.bytes
  have hml : c.maxLocals = 1 := hml0
  have hown : s.vm.findClass "com/example/plainwire/plainwire/rfc806/Element" = some m.cls := findClass_of_methodNamed Bd.named
  have X0 : Stand p l e ({ frames := 0, cells := 0, slots := 0, locals := 0 } : Room) s m #[(.ref s_SEQUENCE)] below meth c s₁ [] 0 0 := Stand.of_body Bd
  have e0 : s₁.heap = h0 := by rw [← hh, Bd.state]; rfl
  have N0 := Fr.nil n0
  have pre0 : ∀ t, Steps p.tables e below (s₁.setTop (mkF m 0 #[.val (.ref s_SEQUENCE)] [])) t → Steps p.tables e below (s₁.setTop (entryFrame m #[(.ref s_SEQUENCE)] 1)) t := fun t k => castTop (by first | (simp [entryFrame, mkF, argsToLocals, Value.category]; done) | rfl) k
  obtain ⟨T1, X1, e1, st1⟩ := getF X0 hx hZ hown (host := "") (Or.inl (hw _ (List.mem_of_getElem? (i := 13) rfl))) Via.refl e0 F_SEQUENCE_code (g := (mkF m 1 #[.val (.ref s_SEQUENCE)] [(.ref s_SEQUENCE)])) rfl rfl (hb hby d1_1)
  obtain ⟨fs, hr, hrun, hended, hW, hsame⟩ := X1.leave (v := some (.int (0 : Int32))) (fun h => by rw [Bd.returns] at h; cases h)
  refine ⟨_, _, pre0 _ ?_, hrun, hended, _, _, rfl, ?_, ⟨_, rfl⟩, hW, hsame.mono (by decide) (by decide)⟩
  · show Steps p.tables e below (s₁.setTop (mkF m 0 #[.val (.ref s_SEQUENCE)] [])) _
    refine XS.aloadN X0.here hx rfl (hb hby d1_0) rfl rfl ?_
    show Steps p.tables e below (s₁.setTop (mkF m 1 #[.val (.ref s_SEQUENCE)] [(.ref s_SEQUENCE)])) _
    refine st1 _ ?_
    show Steps p.tables e below (T1.setTop (mkF m 4 #[.val (.ref s_SEQUENCE)] [(.int (10 : Int32))])) _
    refine XS.bipush X1.here hx rfl (hb hby d1_4) ?_
    show Steps p.tables e below (T1.setTop (mkF m 6 #[.val (.ref s_SEQUENCE)] [(.int (64 : Int32)), (.int (10 : Int32))])) _
    refine XS.iand X1.here hx rfl (hb hby d1_6) rfl ?_
    show Steps p.tables e below (T1.setTop (mkF m 7 #[.val (.ref s_SEQUENCE)] [(.int ((10 : Int32) &&& (64 : Int32)))])) _
    rw [show ((10 : Int32) &&& (64 : Int32)) = (0 : Int32) from by decide +kernel]
    show Steps p.tables e below (T1.setTop (mkF m 7 #[.val (.ref s_SEQUENCE)] [(.int (0 : Int32))])) _
    refine XS.ifYes X1.here hx rfl (pc0 := 7) (pc' := 14) rfl (hb hby d1_7) rfl (by decide +kernel) (by decide) (by decide) ?_
    show Steps p.tables e below (T1.setTop (mkF m 14 #[.val (.ref s_SEQUENCE)] [])) _
    refine XS.iconst X1.here hx rfl (hb hby d1_14) ?_
    show Steps p.tables e below (T1.setTop (mkF m 15 #[.val (.ref s_SEQUENCE)] [(.int (0 : Int32))])) _
    exact retN X1 hx (t := .boolean) Bd.returns (by simp) (hb hby d1_15) hr
  · exact ⟨rfl, N0, e1⟩
set_option maxRecDepth 65536 in
set_option maxHeartbeats 40000000 in
theorem r22 (l : Launch) (Z : State) (a0 : Array Value) (hw : ∀ d ∈ tables_1, d.before a0 Z = true) (ws : List Jvm.Cond) (h0 : Heap) (n0 : Nat) (s_NO_OP : Addr) (s_END_OF_CONSTRUCTOR : Addr) (s_ASCII_STRING : Addr) (s_BOOLEAN : Addr) (s_UNIQUE_ID : Addr) (s_SEQUENCE : Addr) (s_SET : Addr) (s_INTEGER : Addr) (s_PADDING : Addr) (s_PROPERTY_LIST : Addr) (s_DATE : Addr) (s_BIT_STRING : Addr) (t_BIT_STRING_qualifierTag : Addr) (s_PROPERTY : Addr) (s_FIELD : Addr) (t_FIELD_qualifierTag : Addr) (s_COMPRESSED : Addr) (s_ENCRYPTED : Addr) (t_ENCRYPTED_qualifierTag : Addr) (s_MESSAGE : Addr) (t_MESSAGE_qualifierTag : Addr) (s_EXTENSION : Addr) (s_VENDOR_DEFINED : Addr) (K : Ctx Z h0 s_NO_OP s_END_OF_CONSTRUCTOR s_ASCII_STRING s_BOOLEAN s_UNIQUE_ID s_SEQUENCE s_SET s_INTEGER s_PADDING s_PROPERTY_LIST s_DATE s_BIT_STRING t_BIT_STRING_qualifierTag s_PROPERTY s_FIELD t_FIELD_qualifierTag s_COMPRESSED s_ENCRYPTED t_ENCRYPTED_qualifierTag s_MESSAGE t_MESSAGE_qualifierTag s_EXTENSION s_VENDOR_DEFINED) :
    MetFree l (⟨"com/example/plainwire/plainwire/rfc806/Element", "qualifierTag", "()Ljava/lang/String;"⟩ : MethodName) (head1 (Jvm.Cond.code (⟨"com/example/plainwire/plainwire/rfc806/Element", "qualifierTag", "()Ljava/lang/String;"⟩ : MethodName) prog_101_method_10_code 1 (some (.object "java/lang/String")) :: ws) ({ frames := 0, cells := 0, slots := 0, locals := 0 } : Room)) (fun a U => a = #[(.ref s_SEQUENCE)] ∧ Z.Warmed39 U.vm ∧ U.heap = h0) (fun _ _ _ _ _ => True) (fun _ U o U' => ∃ v L, o = .returned v ∧ QV .null h0 n0 v U'.heap L ∧ FrameEnd U o U' L ({ frames := 0, cells := 0, slots := 0, locals := 0 } : Room).cells ({ frames := 0, cells := 0, slots := 0, locals := 0 } : Room).slots) := by
  obtain ⟨S_NO_OP, F_NO_OP_code, E_NO_OP, F_NO_OP_qualifierTag, S_END_OF_CONSTRUCTOR, F_END_OF_CONSTRUCTOR_code, E_END_OF_CONSTRUCTOR, F_END_OF_CONSTRUCTOR_qualifierTag, S_ASCII_STRING, F_ASCII_STRING_code, E_ASCII_STRING, F_ASCII_STRING_qualifierTag, S_BOOLEAN, F_BOOLEAN_code, E_BOOLEAN, F_BOOLEAN_qualifierTag, S_UNIQUE_ID, F_UNIQUE_ID_code, E_UNIQUE_ID, F_UNIQUE_ID_qualifierTag, S_SEQUENCE, F_SEQUENCE_code, E_SEQUENCE, F_SEQUENCE_qualifierTag, S_SET, F_SET_code, E_SET, F_SET_qualifierTag, S_INTEGER, F_INTEGER_code, E_INTEGER, F_INTEGER_qualifierTag, S_PADDING, F_PADDING_code, E_PADDING, F_PADDING_qualifierTag, S_PROPERTY_LIST, F_PROPERTY_LIST_code, E_PROPERTY_LIST, F_PROPERTY_LIST_qualifierTag, S_DATE, F_DATE_code, E_DATE, F_DATE_qualifierTag, S_BIT_STRING, F_BIT_STRING_code, E_BIT_STRING, F_BIT_STRING_qualifierTag, S_PROPERTY, F_PROPERTY_code, E_PROPERTY, F_PROPERTY_qualifierTag, S_COMPRESSED, F_COMPRESSED_code, E_COMPRESSED, F_COMPRESSED_qualifierTag, S_ENCRYPTED, F_ENCRYPTED_code, E_ENCRYPTED, F_ENCRYPTED_qualifierTag, S_FIELD, F_FIELD_code, E_FIELD, F_FIELD_qualifierTag, S_MESSAGE, F_MESSAGE_code, E_MESSAGE, F_MESSAGE_qualifierTag, S_EXTENSION, F_EXTENSION_code, E_EXTENSION, F_EXTENSION_qualifierTag, S_VENDOR_DEFINED, F_VENDOR_DEFINED_code, E_VENDOR_DEFINED, F_VENDOR_DEFINED_qualifierTag⟩ := id K
  refine MetFree.of_bodySF (plainFor_of_name pn2) hisR ?_
  intro p e s m args below meth c s₁ Bd hml0 hP hK
  obtain ⟨rfl, hZ, hh⟩ := hP
  have hx := Bd.exec
  have hby := Bd.bytes
  have hml : c.maxLocals = 1 := hml0
  have hown : s.vm.findClass "com/example/plainwire/plainwire/rfc806/Element" = some m.cls := findClass_of_methodNamed Bd.named
  have X0 : Stand p l e ({ frames := 0, cells := 0, slots := 0, locals := 0 } : Room) s m #[(.ref s_SEQUENCE)] below meth c s₁ [] 0 0 := Stand.of_body Bd
  have e0 : s₁.heap = h0 := by rw [← hh, Bd.state]; rfl
  have N0 := Fr.nil n0
  have pre0 : ∀ t, Steps p.tables e below (s₁.setTop (mkF m 0 #[.val (.ref s_SEQUENCE)] [])) t → Steps p.tables e below (s₁.setTop (entryFrame m #[(.ref s_SEQUENCE)] 1)) t := fun t k => castTop (by first | (simp [entryFrame, mkF, argsToLocals, Value.category]; done) | rfl) k
  obtain ⟨T1, X1, e1, st1⟩ := getF X0 hx hZ hown (host := "") (Or.inl (hw _ (List.mem_of_getElem? (i := 20) rfl))) Via.refl e0 F_SEQUENCE_qualifierTag (g := (mkF m 1 #[.val (.ref s_SEQUENCE)] [(.ref s_SEQUENCE)])) rfl rfl (hb hby d2_1)
  obtain ⟨fs, hr, hrun, hended, hW, hsame⟩ := X1.leave (v := some .null) (fun h => by rw [Bd.returns] at h; cases h)
  refine ⟨_, _, pre0 _ ?_, hrun, hended, _, _, rfl, ?_, ⟨_, rfl⟩, hW, hsame.mono (by decide) (by decide)⟩
  · show Steps p.tables e below (s₁.setTop (mkF m 0 #[.val (.ref s_SEQUENCE)] [])) _
    refine XS.aloadN X0.here hx rfl (hb hby d2_0) rfl rfl ?_
    show Steps p.tables e below (s₁.setTop (mkF m 1 #[.val (.ref s_SEQUENCE)] [(.ref s_SEQUENCE)])) _
    refine st1 _ ?_
    show Steps p.tables e below (T1.setTop (mkF m 4 #[.val (.ref s_SEQUENCE)] [.null])) _
    exact retOut X1 hx (i := .areturn) Bd.returns rfl (Or.inr (Or.inr (Or.inr (Or.inr ⟨rfl, rfl, rfl⟩)))) (hb hby d2_4) hr
  · exact ⟨rfl, N0, e1⟩
set_option maxRecDepth 65536 in
set_option maxHeartbeats 40000000 in
theorem law_k5 (l : Launch) (Z : State) (a0 : Array Value) (hw : ∀ d ∈ tables_1, d.before a0 Z = true) (ws : List Jvm.Cond) (h0 : Heap) (n0 : Nat) (s_NO_OP : Addr) (s_END_OF_CONSTRUCTOR : Addr) (s_ASCII_STRING : Addr) (s_BOOLEAN : Addr) (s_UNIQUE_ID : Addr) (s_SEQUENCE : Addr) (s_SET : Addr) (s_INTEGER : Addr) (s_PADDING : Addr) (s_PROPERTY_LIST : Addr) (s_DATE : Addr) (s_BIT_STRING : Addr) (t_BIT_STRING_qualifierTag : Addr) (s_PROPERTY : Addr) (s_FIELD : Addr) (t_FIELD_qualifierTag : Addr) (s_COMPRESSED : Addr) (s_ENCRYPTED : Addr) (t_ENCRYPTED_qualifierTag : Addr) (s_MESSAGE : Addr) (t_MESSAGE_qualifierTag : Addr) (s_EXTENSION : Addr) (s_VENDOR_DEFINED : Addr) (K : Ctx Z h0 s_NO_OP s_END_OF_CONSTRUCTOR s_ASCII_STRING s_BOOLEAN s_UNIQUE_ID s_SEQUENCE s_SET s_INTEGER s_PADDING s_PROPERTY_LIST s_DATE s_BIT_STRING t_BIT_STRING_qualifierTag s_PROPERTY s_FIELD t_FIELD_qualifierTag s_COMPRESSED s_ENCRYPTED t_ENCRYPTED_qualifierTag s_MESSAGE t_MESSAGE_qualifierTag s_EXTENSION s_VENDOR_DEFINED) (p0 : Int32) (hp0 : ((p0 &&& (2147483647 : Int32)) % (19 : Int32)) = (5 : Int32)) :
    MetFree l x (head1 (Jvm.Cond.code x code maxLocals ret :: ws) room_1) (fun a U => a = #[(.int p0)] ∧ Z.Warmed39 U.vm ∧ U.heap = h0) (fun _ _ _ _ _ => True) (fun _ U o U' => ∃ v L, o = .returned v ∧ QV (.int (1 : Int32)) h0 n0 v U'.heap L ∧ FrameEnd U o U' L room_1.cells room_1.slots) := by
  obtain ⟨S_NO_OP, F_NO_OP_code, E_NO_OP, F_NO_OP_qualifierTag, S_END_OF_CONSTRUCTOR, F_END_OF_CONSTRUCTOR_code, E_END_OF_CONSTRUCTOR, F_END_OF_CONSTRUCTOR_qualifierTag, S_ASCII_STRING, F_ASCII_STRING_code, E_ASCII_STRING, F_ASCII_STRING_qualifierTag, S_BOOLEAN, F_BOOLEAN_code, E_BOOLEAN, F_BOOLEAN_qualifierTag, S_UNIQUE_ID, F_UNIQUE_ID_code, E_UNIQUE_ID, F_UNIQUE_ID_qualifierTag, S_SEQUENCE, F_SEQUENCE_code, E_SEQUENCE, F_SEQUENCE_qualifierTag, S_SET, F_SET_code, E_SET, F_SET_qualifierTag, S_INTEGER, F_INTEGER_code, E_INTEGER, F_INTEGER_qualifierTag, S_PADDING, F_PADDING_code, E_PADDING, F_PADDING_qualifierTag, S_PROPERTY_LIST, F_PROPERTY_LIST_code, E_PROPERTY_LIST, F_PROPERTY_LIST_qualifierTag, S_DATE, F_DATE_code, E_DATE, F_DATE_qualifierTag, S_BIT_STRING, F_BIT_STRING_code, E_BIT_STRING, F_BIT_STRING_qualifierTag, S_PROPERTY, F_PROPERTY_code, E_PROPERTY, F_PROPERTY_qualifierTag, S_COMPRESSED, F_COMPRESSED_code, E_COMPRESSED, F_COMPRESSED_qualifierTag, S_ENCRYPTED, F_ENCRYPTED_code, E_ENCRYPTED, F_ENCRYPTED_qualifierTag, S_FIELD, F_FIELD_code, E_FIELD, F_FIELD_qualifierTag, S_MESSAGE, F_MESSAGE_code, E_MESSAGE, F_MESSAGE_qualifierTag, S_EXTENSION, F_EXTENSION_code, E_EXTENSION, F_EXTENSION_qualifierTag, S_VENDOR_DEFINED, F_VENDOR_DEFINED_code, E_VENDOR_DEFINED, F_VENDOR_DEFINED_qualifierTag⟩ := id K
  refine MetFree.of_bodySF (plainFor_of_name pn3) hisR ?_
  intro p e s m args below meth c s₁ Bd hml0 hP hK
  obtain ⟨rfl, hZ, hh⟩ := hP
  have hx := Bd.exec
  have hby := Bd.bytes
  have hml : c.maxLocals = 6 := hml0
  have hown : s.vm.findClass "com/example/plainwire/plainwire/rfc806/ElementQualifiedPinLaw" = some m.cls := findClass_of_methodNamed Bd.named
  have X0 : Stand p l e room_1 s m #[(.int p0)] below meth c s₁ [] 0 0 := Stand.of_body Bd
  have e0 : s₁.heap = h0 := by rw [← hh, Bd.state]; rfl
  have N0 := Fr.nil n0
  have pre0 : ∀ t, Steps p.tables e below (s₁.setTop (mkF m 0 #[.val (.int p0), .unset, .unset, .unset, .unset, .unset] [])) t → Steps p.tables e below (s₁.setTop (entryFrame m #[(.int p0)] maxLocals)) t := fun t k => castTop (by first | (simp [entryFrame, mkF, argsToLocals, Value.category, maxLocals]; done) | rfl) k
  obtain ⟨_, _, ⟨T1, L1, k1, n1⟩, -, X1, ⟨Lc1, hQ1, l1, y1, z1⟩, st1⟩ := Jvm.LawKit.callS X0 hx (y := (⟨"com/example/plainwire/plainwire/rfc806/ElementQualifiedPinLaw", "pick", "(I)Lcom/example/plainwire/plainwire/rfc806/Element;"⟩ : MethodName)) hown (mvT hZ (hw _ (List.mem_of_getElem? (i := 1) rfl))) (mvT hZ (hw _ (List.mem_of_getElem? (i := 2) rfl))) (mvT hZ (hw _ (List.mem_of_getElem? (i := 3) rfl))) (mvT hZ (hw _ (List.mem_of_getElem? (i := 4) rfl))) (by decide) (backOf (W := 0) (r20 l Z a0 hw [] h0 n0 s_NO_OP s_END_OF_CONSTRUCTOR s_ASCII_STRING s_BOOLEAN s_UNIQUE_ID s_SEQUENCE s_SET s_INTEGER s_PADDING s_PROPERTY_LIST s_DATE s_BIT_STRING t_BIT_STRING_qualifierTag s_PROPERTY s_FIELD t_FIELD_qualifierTag s_COMPRESSED s_ENCRYPTED t_ENCRYPTED_qualifierTag s_MESSAGE t_MESSAGE_qualifierTag s_EXTENSION s_VENDOR_DEFINED K) hZ (hw _ (List.mem_of_getElem? (i := 4) rfl)) (hw _ (List.mem_of_getElem? (i := 3) rfl)) (by decide) (by decide)) (g := (mkF m 9 #[.val (.int p0), .val (.int (5 : Int32)), .unset, .unset, .unset, .unset] [(.int (5 : Int32))])) rfl (by rw [hml]; rfl) (argsL := [(.int (5 : Int32))]) (rest := []) (lenOf pd0 rfl) rfl (by show 2 * 0 + _ ≤ _; exact Nat.le_of_eq rfl) (hb hby at_9) (fun _ _ => ⟨rfl, e0, (by decide : 0 + 0 ≤ _), (by decide : 0 + 0 ≤ _)⟩)
  dsimp only [Pt.U, Pt.locs, Pt.cells, Pt.slots] at X1 l1 y1 z1 st1 hQ1
  subst l1 y1 z1
  obtain ⟨rfl, N1q, e1⟩ := hQ1
  have N1 := Fr.app N0 N1q
  obtain ⟨cq2, kq2, q2a, q2b, q2c⟩ := isOf hZ e1 E_SEQUENCE
  obtain ⟨_, _, ⟨T2, L2, k2, n2⟩, -, X2, ⟨Lc2, hQ2, l2, y2, z2⟩, st2⟩ := X1.virtualBack hx (y := (⟨"com/example/plainwire/plainwire/rfc806/Element", "qualified", "()Z"⟩ : MethodName)) (z := (⟨"com/example/plainwire/plainwire/rfc806/Element", "qualified", "()Z"⟩ : MethodName)) hown (mvT hZ (hw _ (List.mem_of_getElem? (i := 8) rfl))) (mvT hZ (hw _ (List.mem_of_getElem? (i := 9) rfl))) (notFace_of_selects (args := #[]) (mvT hZ (hw _ (List.mem_of_getElem? (i := 11) rfl)))) (mvT hZ (hw _ (List.mem_of_getElem? (i := 11) rfl))) (mvT hZ (hw _ (List.mem_of_getElem? (i := 10) rfl))) (by decide) (backOf (W := 0) (r21 l Z a0 hw [] h0 n0 s_NO_OP s_END_OF_CONSTRUCTOR s_ASCII_STRING s_BOOLEAN s_UNIQUE_ID s_SEQUENCE s_SET s_INTEGER s_PADDING s_PROPERTY_LIST s_DATE s_BIT_STRING t_BIT_STRING_qualifierTag s_PROPERTY s_FIELD t_FIELD_qualifierTag s_COMPRESSED s_ENCRYPTED t_ENCRYPTED_qualifierTag s_MESSAGE t_MESSAGE_qualifierTag s_EXTENSION s_VENDOR_DEFINED K) hZ (hw _ (List.mem_of_getElem? (i := 12) rfl)) (hw _ (List.mem_of_getElem? (i := 6) rfl)) (by decide) (by decide)) q2a q2c (g := (mkF m 26 #[.val (.int p0), .val (.int (5 : Int32)), .val (.ref s_SEQUENCE), .val (.int (0 : Int32)), .unset, .unset] [(.ref s_SEQUENCE)])) rfl (by rw [hml]; rfl) (Steps.refl _) (argsL := []) (rest := []) (lenOf pd1 rfl) rfl (by show 2 * 0 + _ ≤ _; exact Nat.le_of_eq rfl) (hb hby at_26) (fun _ _ => ⟨rfl, e1, (by decide : 0 + 0 ≤ _), (by decide : 0 + 0 ≤ _)⟩)
  dsimp only [Pt.U, Pt.locs, Pt.cells, Pt.slots] at X2 l2 y2 z2 st2 hQ2
  subst l2 y2 z2
  obtain ⟨rfl, N2q, e2⟩ := hQ2
  have N2 := Fr.app N1 N2q
  obtain ⟨cq3, kq3, q3a, q3b, q3c⟩ := isOf hZ e2 E_SEQUENCE
  obtain ⟨_, _, ⟨T3, L3, k3, n3⟩, -, X3, ⟨Lc3, hQ3, l3, y3, z3⟩, st3⟩ := X2.virtualBack hx (y := (⟨"com/example/plainwire/plainwire/rfc806/Element", "qualifierTag", "()Ljava/lang/String;"⟩ : MethodName)) (z := (⟨"com/example/plainwire/plainwire/rfc806/Element", "qualifierTag", "()Ljava/lang/String;"⟩ : MethodName)) hown (mvT hZ (hw _ (List.mem_of_getElem? (i := 15) rfl))) (mvT hZ (hw _ (List.mem_of_getElem? (i := 16) rfl))) (notFace_of_selects (args := #[]) (mvT hZ (hw _ (List.mem_of_getElem? (i := 18) rfl)))) (mvT hZ (hw _ (List.mem_of_getElem? (i := 18) rfl))) (mvT hZ (hw _ (List.mem_of_getElem? (i := 17) rfl))) (by decide) (backOf (W := 0) (r22 l Z a0 hw [] h0 n0 s_NO_OP s_END_OF_CONSTRUCTOR s_ASCII_STRING s_BOOLEAN s_UNIQUE_ID s_SEQUENCE s_SET s_INTEGER s_PADDING s_PROPERTY_LIST s_DATE s_BIT_STRING t_BIT_STRING_qualifierTag s_PROPERTY s_FIELD t_FIELD_qualifierTag s_COMPRESSED s_ENCRYPTED t_ENCRYPTED_qualifierTag s_MESSAGE t_MESSAGE_qualifierTag s_EXTENSION s_VENDOR_DEFINED K) hZ (hw _ (List.mem_of_getElem? (i := 19) rfl)) (hw _ (List.mem_of_getElem? (i := 6) rfl)) (by decide) (by decide)) q3a q3c (g := (mkF m 32 #[.val (.int p0), .val (.int (5 : Int32)), .val (.ref s_SEQUENCE), .val (.int (0 : Int32)), .val (.int (0 : Int32)), .unset] [(.ref s_SEQUENCE)])) rfl (by rw [hml]; rfl) (Steps.refl _) (argsL := []) (rest := []) (lenOf pd2 rfl) rfl (by show 2 * 0 + _ ≤ _; exact Nat.le_of_eq rfl) (hb hby at_32) (fun _ _ => ⟨rfl, e2, (by decide : 0 + 0 ≤ _), (by decide : 0 + 0 ≤ _)⟩)
  dsimp only [Pt.U, Pt.locs, Pt.cells, Pt.slots] at X3 l3 y3 z3 st3 hQ3
  subst l3 y3 z3
  obtain ⟨rfl, N3q, e3⟩ := hQ3
  have N3 := Fr.app N2 N3q
  obtain ⟨fs, hr, hrun, hended, hW, hsame⟩ := X3.leave (v := some (.int (1 : Int32))) (fun h => by rw [Bd.returns] at h; cases h)
  refine ⟨_, _, pre0 _ ?_, hrun, hended, _, _, rfl, ?_, ⟨_, rfl⟩, hW, hsame.mono (by decide) (by decide)⟩
  · show Steps p.tables e below (s₁.setTop (mkF m 0 #[.val (.int p0), .unset, .unset, .unset, .unset, .unset] [])) _
    refine XS.iloadN X0.here hx rfl (hb hby at_0) rfl ?_
    show Steps p.tables e below (s₁.setTop (mkF m 1 #[.val (.int p0), .unset, .unset, .unset, .unset, .unset] [(.int p0)])) _
    refine X0.ldcInt hx hown (mvT hZ (hw _ (List.mem_of_getElem? (i := 0) rfl))) (g := (mkF m 1 #[.val (.int p0), .unset, .unset, .unset, .unset, .unset] [(.int p0)])) rfl (hb hby at_1) _ ?_
    show Steps p.tables e below (s₁.setTop (mkF m 3 #[.val (.int p0), .unset, .unset, .unset, .unset, .unset] [(.int (2147483647 : Int32)), (.int p0)])) _
    refine XS.iand X0.here hx rfl (hb hby at_3) rfl ?_
    show Steps p.tables e below (s₁.setTop (mkF m 4 #[.val (.int p0), .unset, .unset, .unset, .unset, .unset] [(.int (p0 &&& (2147483647 : Int32)))])) _
    refine XS.bipush X0.here hx rfl (hb hby at_4) ?_
    show Steps p.tables e below (s₁.setTop (mkF m 6 #[.val (.int p0), .unset, .unset, .unset, .unset, .unset] [(.int (19 : Int32)), (.int (p0 &&& (2147483647 : Int32)))])) _
    refine Jvm.RoadKit.iremM X0 hx rfl (hb hby at_6) rfl (by decide) ?_
    show Steps p.tables e below (s₁.setTop (mkF m 7 #[.val (.int p0), .unset, .unset, .unset, .unset, .unset] [(.int ((p0 &&& (2147483647 : Int32)) % (19 : Int32)))])) _
    rw [hp0]
    show Steps p.tables e below (s₁.setTop (mkF m 7 #[.val (.int p0), .unset, .unset, .unset, .unset, .unset] [(.int (5 : Int32))])) _
    refine XS.istoreN X0.here hx rfl (hb hby at_7) rfl (l' := #[.val (.int p0), .val (.int (5 : Int32)), .unset, .unset, .unset, .unset]) rfl ?_
    show Steps p.tables e below (s₁.setTop (mkF m 8 #[.val (.int p0), .val (.int (5 : Int32)), .unset, .unset, .unset, .unset] [])) _
    refine XS.iloadN X0.here hx rfl (hb hby at_8) rfl ?_
    show Steps p.tables e below (s₁.setTop (mkF m 9 #[.val (.int p0), .val (.int (5 : Int32)), .unset, .unset, .unset, .unset] [(.int (5 : Int32))])) _
    refine st1 _ ?_
    show Steps p.tables e below (T1.setTop (mkF m 12 #[.val (.int p0), .val (.int (5 : Int32)), .unset, .unset, .unset, .unset] [(.ref s_SEQUENCE)])) _
    refine XS.astoreN X1.here hx rfl (hb hby at_12) rfl rfl (l' := #[.val (.int p0), .val (.int (5 : Int32)), .val (.ref s_SEQUENCE), .unset, .unset, .unset]) rfl ?_
    show Steps p.tables e below (T1.setTop (mkF m 13 #[.val (.int p0), .val (.int (5 : Int32)), .val (.ref s_SEQUENCE), .unset, .unset, .unset] [])) _
    refine XS.iloadN X1.here hx rfl (hb hby at_13) rfl ?_
    show Steps p.tables e below (T1.setTop (mkF m 14 #[.val (.int p0), .val (.int (5 : Int32)), .val (.ref s_SEQUENCE), .unset, .unset, .unset] [(.int (5 : Int32))])) _
    refine XS.bipush X1.here hx rfl (hb hby at_14) ?_
    show Steps p.tables e below (T1.setTop (mkF m 16 #[.val (.int p0), .val (.int (5 : Int32)), .val (.ref s_SEQUENCE), .unset, .unset, .unset] [(.int (11 : Int32)), (.int (5 : Int32))])) _
    refine XS.icmpYes X1.here hx rfl (pc0 := 16) (pc' := 23) rfl (hb hby at_16) rfl (by decide +kernel) (by decide) (by decide) ?_
    show Steps p.tables e below (T1.setTop (mkF m 23 #[.val (.int p0), .val (.int (5 : Int32)), .val (.ref s_SEQUENCE), .unset, .unset, .unset] [])) _
    refine XS.iconst X1.here hx rfl (hb hby at_23) ?_
    show Steps p.tables e below (T1.setTop (mkF m 24 #[.val (.int p0), .val (.int (5 : Int32)), .val (.ref s_SEQUENCE), .unset, .unset, .unset] [(.int (0 : Int32))])) _
    refine XS.istoreN X1.here hx rfl (hb hby at_24) rfl (l' := #[.val (.int p0), .val (.int (5 : Int32)), .val (.ref s_SEQUENCE), .val (.int (0 : Int32)), .unset, .unset]) rfl ?_
    show Steps p.tables e below (T1.setTop (mkF m 25 #[.val (.int p0), .val (.int (5 : Int32)), .val (.ref s_SEQUENCE), .val (.int (0 : Int32)), .unset, .unset] [])) _
    refine XS.aloadN X1.here hx rfl (hb hby at_25) rfl rfl ?_
    show Steps p.tables e below (T1.setTop (mkF m 26 #[.val (.int p0), .val (.int (5 : Int32)), .val (.ref s_SEQUENCE), .val (.int (0 : Int32)), .unset, .unset] [(.ref s_SEQUENCE)])) _
    refine st2.trans ?_
    show Steps p.tables e below (T2.setTop (mkF m 29 #[.val (.int p0), .val (.int (5 : Int32)), .val (.ref s_SEQUENCE), .val (.int (0 : Int32)), .unset, .unset] [(.int (0 : Int32))])) _
    refine XS.istore X2.here hx rfl (hb hby at_29) rfl (l' := #[.val (.int p0), .val (.int (5 : Int32)), .val (.ref s_SEQUENCE), .val (.int (0 : Int32)), .val (.int (0 : Int32)), .unset]) rfl ?_
    show Steps p.tables e below (T2.setTop (mkF m 31 #[.val (.int p0), .val (.int (5 : Int32)), .val (.ref s_SEQUENCE), .val (.int (0 : Int32)), .val (.int (0 : Int32)), .unset] [])) _
    refine XS.aloadN X2.here hx rfl (hb hby at_31) rfl rfl ?_
    show Steps p.tables e below (T2.setTop (mkF m 32 #[.val (.int p0), .val (.int (5 : Int32)), .val (.ref s_SEQUENCE), .val (.int (0 : Int32)), .val (.int (0 : Int32)), .unset] [(.ref s_SEQUENCE)])) _
    refine st3.trans ?_
    show Steps p.tables e below (T3.setTop (mkF m 35 #[.val (.int p0), .val (.int (5 : Int32)), .val (.ref s_SEQUENCE), .val (.int (0 : Int32)), .val (.int (0 : Int32)), .unset] [.null])) _
    refine XS.ifnullYes X3.here hx rfl (pc0 := 35) (pc' := 42) rfl (hb hby at_35) rfl (by decide) (by decide) ?_
    show Steps p.tables e below (T3.setTop (mkF m 42 #[.val (.int p0), .val (.int (5 : Int32)), .val (.ref s_SEQUENCE), .val (.int (0 : Int32)), .val (.int (0 : Int32)), .unset] [])) _
    refine XS.iconst X3.here hx rfl (hb hby at_42) ?_
    show Steps p.tables e below (T3.setTop (mkF m 43 #[.val (.int p0), .val (.int (5 : Int32)), .val (.ref s_SEQUENCE), .val (.int (0 : Int32)), .val (.int (0 : Int32)), .unset] [(.int (0 : Int32))])) _
    refine XS.istore X3.here hx rfl (hb hby at_43) rfl (l' := #[.val (.int p0), .val (.int (5 : Int32)), .val (.ref s_SEQUENCE), .val (.int (0 : Int32)), .val (.int (0 : Int32)), .val (.int (0 : Int32))]) rfl ?_
    show Steps p.tables e below (T3.setTop (mkF m 45 #[.val (.int p0), .val (.int (5 : Int32)), .val (.ref s_SEQUENCE), .val (.int (0 : Int32)), .val (.int (0 : Int32)), .val (.int (0 : Int32))] [])) _
    refine XS.iload X3.here hx rfl (hb hby at_45) rfl ?_
    show Steps p.tables e below (T3.setTop (mkF m 47 #[.val (.int p0), .val (.int (5 : Int32)), .val (.ref s_SEQUENCE), .val (.int (0 : Int32)), .val (.int (0 : Int32)), .val (.int (0 : Int32))] [(.int (0 : Int32))])) _
    refine XS.iloadN X3.here hx rfl (hb hby at_47) rfl ?_
    show Steps p.tables e below (T3.setTop (mkF m 48 #[.val (.int p0), .val (.int (5 : Int32)), .val (.ref s_SEQUENCE), .val (.int (0 : Int32)), .val (.int (0 : Int32)), .val (.int (0 : Int32))] [(.int (0 : Int32)), (.int (0 : Int32))])) _
    refine XS.icmpNo X3.here hx rfl (hb hby at_48) rfl (by decide +kernel) ?_
    show Steps p.tables e below (T3.setTop (mkF m 51 #[.val (.int p0), .val (.int (5 : Int32)), .val (.ref s_SEQUENCE), .val (.int (0 : Int32)), .val (.int (0 : Int32)), .val (.int (0 : Int32))] [])) _
    refine XS.iload X3.here hx rfl (hb hby at_51) rfl ?_
    show Steps p.tables e below (T3.setTop (mkF m 53 #[.val (.int p0), .val (.int (5 : Int32)), .val (.ref s_SEQUENCE), .val (.int (0 : Int32)), .val (.int (0 : Int32)), .val (.int (0 : Int32))] [(.int (0 : Int32))])) _
    refine XS.iload X3.here hx rfl (hb hby at_53) rfl ?_
    show Steps p.tables e below (T3.setTop (mkF m 55 #[.val (.int p0), .val (.int (5 : Int32)), .val (.ref s_SEQUENCE), .val (.int (0 : Int32)), .val (.int (0 : Int32)), .val (.int (0 : Int32))] [(.int (0 : Int32)), (.int (0 : Int32))])) _
    refine XS.icmpNo X3.here hx rfl (hb hby at_55) rfl (by decide +kernel) ?_
    show Steps p.tables e below (T3.setTop (mkF m 58 #[.val (.int p0), .val (.int (5 : Int32)), .val (.ref s_SEQUENCE), .val (.int (0 : Int32)), .val (.int (0 : Int32)), .val (.int (0 : Int32))] [])) _
    refine XS.iconst X3.here hx rfl (hb hby at_58) ?_
    show Steps p.tables e below (T3.setTop (mkF m 59 #[.val (.int p0), .val (.int (5 : Int32)), .val (.ref s_SEQUENCE), .val (.int (0 : Int32)), .val (.int (0 : Int32)), .val (.int (0 : Int32))] [(.int (1 : Int32))])) _
    refine XS.goto X3.here hx rfl (pc0 := 59) (pc' := 63) rfl (hb hby at_59) (by decide) (by decide) ?_
    show Steps p.tables e below (T3.setTop (mkF m 63 #[.val (.int p0), .val (.int (5 : Int32)), .val (.ref s_SEQUENCE), .val (.int (0 : Int32)), .val (.int (0 : Int32)), .val (.int (0 : Int32))] [(.int (1 : Int32))])) _
    exact retN X3 hx (t := .boolean) Bd.returns (by simp) (hb hby at_63) hr
  · exact ⟨rfl, N3, e3⟩
set_option maxRecDepth 65536 in
set_option maxHeartbeats 40000000 in
theorem r24 (l : Launch) (Z : State) (a0 : Array Value) (hw : ∀ d ∈ tables_1, d.before a0 Z = true) (ws : List Jvm.Cond) (h0 : Heap) (n0 : Nat) (s_NO_OP : Addr) (s_END_OF_CONSTRUCTOR : Addr) (s_ASCII_STRING : Addr) (s_BOOLEAN : Addr) (s_UNIQUE_ID : Addr) (s_SEQUENCE : Addr) (s_SET : Addr) (s_INTEGER : Addr) (s_PADDING : Addr) (s_PROPERTY_LIST : Addr) (s_DATE : Addr) (s_BIT_STRING : Addr) (t_BIT_STRING_qualifierTag : Addr) (s_PROPERTY : Addr) (s_FIELD : Addr) (t_FIELD_qualifierTag : Addr) (s_COMPRESSED : Addr) (s_ENCRYPTED : Addr) (t_ENCRYPTED_qualifierTag : Addr) (s_MESSAGE : Addr) (t_MESSAGE_qualifierTag : Addr) (s_EXTENSION : Addr) (s_VENDOR_DEFINED : Addr) (K : Ctx Z h0 s_NO_OP s_END_OF_CONSTRUCTOR s_ASCII_STRING s_BOOLEAN s_UNIQUE_ID s_SEQUENCE s_SET s_INTEGER s_PADDING s_PROPERTY_LIST s_DATE s_BIT_STRING t_BIT_STRING_qualifierTag s_PROPERTY s_FIELD t_FIELD_qualifierTag s_COMPRESSED s_ENCRYPTED t_ENCRYPTED_qualifierTag s_MESSAGE t_MESSAGE_qualifierTag s_EXTENSION s_VENDOR_DEFINED) :
    MetFree l (⟨"com/example/plainwire/plainwire/rfc806/ElementQualifiedPinLaw", "pick", "(I)Lcom/example/plainwire/plainwire/rfc806/Element;"⟩ : MethodName) (head1 (Jvm.Cond.code (⟨"com/example/plainwire/plainwire/rfc806/ElementQualifiedPinLaw", "pick", "(I)Lcom/example/plainwire/plainwire/rfc806/Element;"⟩ : MethodName) method_2_code 1 (some (.object "com/example/plainwire/plainwire/rfc806/Element")) :: ws) ({ frames := 0, cells := 0, slots := 0, locals := 0 } : Room)) (fun a U => a = #[(.int (6 : Int32))] ∧ Z.Warmed39 U.vm ∧ U.heap = h0) (fun _ _ _ _ _ => True) (fun _ U o U' => ∃ v L, o = .returned v ∧ QV (.ref s_SET) h0 n0 v U'.heap L ∧ FrameEnd U o U' L ({ frames := 0, cells := 0, slots := 0, locals := 0 } : Room).cells ({ frames := 0, cells := 0, slots := 0, locals := 0 } : Room).slots) := by
  obtain ⟨S_NO_OP, F_NO_OP_code, E_NO_OP, F_NO_OP_qualifierTag, S_END_OF_CONSTRUCTOR, F_END_OF_CONSTRUCTOR_code, E_END_OF_CONSTRUCTOR, F_END_OF_CONSTRUCTOR_qualifierTag, S_ASCII_STRING, F_ASCII_STRING_code, E_ASCII_STRING, F_ASCII_STRING_qualifierTag, S_BOOLEAN, F_BOOLEAN_code, E_BOOLEAN, F_BOOLEAN_qualifierTag, S_UNIQUE_ID, F_UNIQUE_ID_code, E_UNIQUE_ID, F_UNIQUE_ID_qualifierTag, S_SEQUENCE, F_SEQUENCE_code, E_SEQUENCE, F_SEQUENCE_qualifierTag, S_SET, F_SET_code, E_SET, F_SET_qualifierTag, S_INTEGER, F_INTEGER_code, E_INTEGER, F_INTEGER_qualifierTag, S_PADDING, F_PADDING_code, E_PADDING, F_PADDING_qualifierTag, S_PROPERTY_LIST, F_PROPERTY_LIST_code, E_PROPERTY_LIST, F_PROPERTY_LIST_qualifierTag, S_DATE, F_DATE_code, E_DATE, F_DATE_qualifierTag, S_BIT_STRING, F_BIT_STRING_code, E_BIT_STRING, F_BIT_STRING_qualifierTag, S_PROPERTY, F_PROPERTY_code, E_PROPERTY, F_PROPERTY_qualifierTag, S_COMPRESSED, F_COMPRESSED_code, E_COMPRESSED, F_COMPRESSED_qualifierTag, S_ENCRYPTED, F_ENCRYPTED_code, E_ENCRYPTED, F_ENCRYPTED_qualifierTag, S_FIELD, F_FIELD_code, E_FIELD, F_FIELD_qualifierTag, S_MESSAGE, F_MESSAGE_code, E_MESSAGE, F_MESSAGE_qualifierTag, S_EXTENSION, F_EXTENSION_code, E_EXTENSION, F_EXTENSION_qualifierTag, S_VENDOR_DEFINED, F_VENDOR_DEFINED_code, E_VENDOR_DEFINED, F_VENDOR_DEFINED_qualifierTag⟩ := id K
  refine MetFree.of_bodySF (plainFor_of_name pn0) hisR ?_
  intro p e s m args below meth c s₁ Bd hml0 hP hK
  obtain ⟨rfl, hZ, hh⟩ := hP
  have hx := Bd.exec
  have hby := Bd.bytes
  have hml : c.maxLocals = 1 := hml0
  have hown : s.vm.findClass "com/example/plainwire/plainwire/rfc806/ElementQualifiedPinLaw" = some m.cls := findClass_of_methodNamed Bd.named
  have X0 : Stand p l e ({ frames := 0, cells := 0, slots := 0, locals := 0 } : Room) s m #[(.int (6 : Int32))] below meth c s₁ [] 0 0 := Stand.of_body Bd
  have e0 : s₁.heap = h0 := by rw [← hh, Bd.state]; rfl
  have N0 := Fr.nil n0
  have pre0 : ∀ t, Steps p.tables e below (s₁.setTop (mkF m 0 #[.val (.int (6 : Int32))] [])) t → Steps p.tables e below (s₁.setTop (entryFrame m #[(.int (6 : Int32))] 1)) t := fun t k => castTop (by first | (simp [entryFrame, mkF, argsToLocals, Value.category]; done) | rfl) k
  obtain ⟨T1, X1, e1, st1⟩ := getS X0 hx hZ hown (host := "") (hw _ (List.mem_of_getElem? (i := 46) rfl)) Via.refl e0 S_SET (g := (mkF m 59 #[.val (.int (6 : Int32))] [])) rfl (hb hby d0_59)
  obtain ⟨fs, hr, hrun, hended, hW, hsame⟩ := X1.leave (v := some (.ref s_SET)) (fun h => by rw [Bd.returns] at h; cases h)
  refine ⟨_, _, pre0 _ ?_, hrun, hended, _, _, rfl, ?_, ⟨_, rfl⟩, hW, hsame.mono (by decide) (by decide)⟩
  · show Steps p.tables e below (s₁.setTop (mkF m 0 #[.val (.int (6 : Int32))] [])) _
    refine XS.iloadN X0.here hx rfl (hb hby d0_0) rfl ?_
    show Steps p.tables e below (s₁.setTop (mkF m 1 #[.val (.int (6 : Int32))] [(.int (6 : Int32))])) _
    refine XS.ifYes X0.here hx rfl (pc0 := 1) (pc' := 8) rfl (hb hby d0_1) rfl (by decide +kernel) (by decide) (by decide) ?_
    show Steps p.tables e below (s₁.setTop (mkF m 8 #[.val (.int (6 : Int32))] [])) _
    refine XS.iloadN X0.here hx rfl (hb hby d0_8) rfl ?_
    show Steps p.tables e below (s₁.setTop (mkF m 9 #[.val (.int (6 : Int32))] [(.int (6 : Int32))])) _
    refine XS.iconst X0.here hx rfl (hb hby d0_9) ?_
    show Steps p.tables e below (s₁.setTop (mkF m 10 #[.val (.int (6 : Int32))] [(.int (1 : Int32)), (.int (6 : Int32))])) _
    refine XS.icmpYes X0.here hx rfl (pc0 := 10) (pc' := 17) rfl (hb hby d0_10) rfl (by decide +kernel) (by decide) (by decide) ?_
    show Steps p.tables e below (s₁.setTop (mkF m 17 #[.val (.int (6 : Int32))] [])) _
    refine XS.iloadN X0.here hx rfl (hb hby d0_17) rfl ?_
    show Steps p.tables e below (s₁.setTop (mkF m 18 #[.val (.int (6 : Int32))] [(.int (6 : Int32))])) _
    refine XS.iconst X0.here hx rfl (hb hby d0_18) ?_
    show Steps p.tables e below (s₁.setTop (mkF m 19 #[.val (.int (6 : Int32))] [(.int (2 : Int32)), (.int (6 : Int32))])) _
    refine XS.icmpYes X0.here hx rfl (pc0 := 19) (pc' := 26) rfl (hb hby d0_19) rfl (by decide +kernel) (by decide) (by decide) ?_
    show Steps p.tables e below (s₁.setTop (mkF m 26 #[.val (.int (6 : Int32))] [])) _
    refine XS.iloadN X0.here hx rfl (hb hby d0_26) rfl ?_
    show Steps p.tables e below (s₁.setTop (mkF m 27 #[.val (.int (6 : Int32))] [(.int (6 : Int32))])) _
    refine XS.iconst X0.here hx rfl (hb hby d0_27) ?_
    show Steps p.tables e below (s₁.setTop (mkF m 28 #[.val (.int (6 : Int32))] [(.int (3 : Int32)), (.int (6 : Int32))])) _
    refine XS.icmpYes X0.here hx rfl (pc0 := 28) (pc' := 35) rfl (hb hby d0_28) rfl (by decide +kernel) (by decide) (by decide) ?_
    show Steps p.tables e below (s₁.setTop (mkF m 35 #[.val (.int (6 : Int32))] [])) _
    refine XS.iloadN X0.here hx rfl (hb hby d0_35) rfl ?_
    show Steps p.tables e below (s₁.setTop (mkF m 36 #[.val (.int (6 : Int32))] [(.int (6 : Int32))])) _
    refine XS.iconst X0.here hx rfl (hb hby d0_36) ?_
    show Steps p.tables e below (s₁.setTop (mkF m 37 #[.val (.int (6 : Int32))] [(.int (4 : Int32)), (.int (6 : Int32))])) _
    refine XS.icmpYes X0.here hx rfl (pc0 := 37) (pc' := 44) rfl (hb hby d0_37) rfl (by decide +kernel) (by decide) (by decide) ?_
    show Steps p.tables e below (s₁.setTop (mkF m 44 #[.val (.int (6 : Int32))] [])) _
    refine XS.iloadN X0.here hx rfl (hb hby d0_44) rfl ?_
    show Steps p.tables e below (s₁.setTop (mkF m 45 #[.val (.int (6 : Int32))] [(.int (6 : Int32))])) _
    refine XS.iconst X0.here hx rfl (hb hby d0_45) ?_
    show Steps p.tables e below (s₁.setTop (mkF m 46 #[.val (.int (6 : Int32))] [(.int (5 : Int32)), (.int (6 : Int32))])) _
    refine XS.icmpYes X0.here hx rfl (pc0 := 46) (pc' := 53) rfl (hb hby d0_46) rfl (by decide +kernel) (by decide) (by decide) ?_
    show Steps p.tables e below (s₁.setTop (mkF m 53 #[.val (.int (6 : Int32))] [])) _
    refine XS.iloadN X0.here hx rfl (hb hby d0_53) rfl ?_
    show Steps p.tables e below (s₁.setTop (mkF m 54 #[.val (.int (6 : Int32))] [(.int (6 : Int32))])) _
    refine XS.bipush X0.here hx rfl (hb hby d0_54) ?_
    show Steps p.tables e below (s₁.setTop (mkF m 56 #[.val (.int (6 : Int32))] [(.int (6 : Int32)), (.int (6 : Int32))])) _
    refine XS.icmpNo X0.here hx rfl (hb hby d0_56) rfl (by decide +kernel) ?_
    show Steps p.tables e below (s₁.setTop (mkF m 59 #[.val (.int (6 : Int32))] [])) _
    refine st1 _ ?_
    show Steps p.tables e below (T1.setTop (mkF m 62 #[.val (.int (6 : Int32))] [(.ref s_SET)])) _
    exact retOut X1 hx (i := .areturn) Bd.returns rfl (Or.inr (Or.inr (Or.inr (Or.inr ⟨rfl, rfl, rfl⟩)))) (hb hby d0_62) hr
  · exact ⟨rfl, N0, e1⟩
set_option maxRecDepth 65536 in
set_option maxHeartbeats 40000000 in
theorem r25 (l : Launch) (Z : State) (a0 : Array Value) (hw : ∀ d ∈ tables_1, d.before a0 Z = true) (ws : List Jvm.Cond) (h0 : Heap) (n0 : Nat) (s_NO_OP : Addr) (s_END_OF_CONSTRUCTOR : Addr) (s_ASCII_STRING : Addr) (s_BOOLEAN : Addr) (s_UNIQUE_ID : Addr) (s_SEQUENCE : Addr) (s_SET : Addr) (s_INTEGER : Addr) (s_PADDING : Addr) (s_PROPERTY_LIST : Addr) (s_DATE : Addr) (s_BIT_STRING : Addr) (t_BIT_STRING_qualifierTag : Addr) (s_PROPERTY : Addr) (s_FIELD : Addr) (t_FIELD_qualifierTag : Addr) (s_COMPRESSED : Addr) (s_ENCRYPTED : Addr) (t_ENCRYPTED_qualifierTag : Addr) (s_MESSAGE : Addr) (t_MESSAGE_qualifierTag : Addr) (s_EXTENSION : Addr) (s_VENDOR_DEFINED : Addr) (K : Ctx Z h0 s_NO_OP s_END_OF_CONSTRUCTOR s_ASCII_STRING s_BOOLEAN s_UNIQUE_ID s_SEQUENCE s_SET s_INTEGER s_PADDING s_PROPERTY_LIST s_DATE s_BIT_STRING t_BIT_STRING_qualifierTag s_PROPERTY s_FIELD t_FIELD_qualifierTag s_COMPRESSED s_ENCRYPTED t_ENCRYPTED_qualifierTag s_MESSAGE t_MESSAGE_qualifierTag s_EXTENSION s_VENDOR_DEFINED) :
    MetFree l (⟨"com/example/plainwire/plainwire/rfc806/Element", "qualified", "()Z"⟩ : MethodName) (head1 (Jvm.Cond.code (⟨"com/example/plainwire/plainwire/rfc806/Element", "qualified", "()Z"⟩ : MethodName) prog_101_method_9_code 1 (some .boolean) :: ws) ({ frames := 0, cells := 0, slots := 0, locals := 0 } : Room)) (fun a U => a = #[(.ref s_SET)] ∧ Z.Warmed39 U.vm ∧ U.heap = h0) (fun _ _ _ _ _ => True) (fun _ U o U' => ∃ v L, o = .returned v ∧ QV (.int (0 : Int32)) h0 n0 v U'.heap L ∧ FrameEnd U o U' L ({ frames := 0, cells := 0, slots := 0, locals := 0 } : Room).cells ({ frames := 0, cells := 0, slots := 0, locals := 0 } : Room).slots) := by
  obtain ⟨S_NO_OP, F_NO_OP_code, E_NO_OP, F_NO_OP_qualifierTag, S_END_OF_CONSTRUCTOR, F_END_OF_CONSTRUCTOR_code, E_END_OF_CONSTRUCTOR, F_END_OF_CONSTRUCTOR_qualifierTag, S_ASCII_STRING, F_ASCII_STRING_code, E_ASCII_STRING, F_ASCII_STRING_qualifierTag, S_BOOLEAN, F_BOOLEAN_code, E_BOOLEAN, F_BOOLEAN_qualifierTag, S_UNIQUE_ID, F_UNIQUE_ID_code, E_UNIQUE_ID, F_UNIQUE_ID_qualifierTag, S_SEQUENCE, F_SEQUENCE_code, E_SEQUENCE, F_SEQUENCE_qualifierTag, S_SET, F_SET_code, E_SET, F_SET_qualifierTag, S_INTEGER, F_INTEGER_code, E_INTEGER, F_INTEGER_qualifierTag, S_PADDING, F_PADDING_code, E_PADDING, F_PADDING_qualifierTag, S_PROPERTY_LIST, F_PROPERTY_LIST_code, E_PROPERTY_LIST, F_PROPERTY_LIST_qualifierTag, S_DATE, F_DATE_code, E_DATE, F_DATE_qualifierTag, S_BIT_STRING, F_BIT_STRING_code, E_BIT_STRING, F_BIT_STRING_qualifierTag, S_PROPERTY, F_PROPERTY_code, E_PROPERTY, F_PROPERTY_qualifierTag, S_COMPRESSED, F_COMPRESSED_code, E_COMPRESSED, F_COMPRESSED_qualifierTag, S_ENCRYPTED, F_ENCRYPTED_code, E_ENCRYPTED, F_ENCRYPTED_qualifierTag, S_FIELD, F_FIELD_code, E_FIELD, F_FIELD_qualifierTag, S_MESSAGE, F_MESSAGE_code, E_MESSAGE, F_MESSAGE_qualifierTag, S_EXTENSION, F_EXTENSION_code, E_EXTENSION, F_EXTENSION_qualifierTag, S_VENDOR_DEFINED, F_VENDOR_DEFINED_code, E_VENDOR_DEFINED, F_VENDOR_DEFINED_qualifierTag⟩ := id K
  refine MetFree.of_bodySF (plainFor_of_name pn1) hisR ?_
  intro p e s m args below meth c s₁ Bd hml0 hP hK
  obtain ⟨rfl, hZ, hh⟩ := hP
  have hx := Bd.exec
  have hby := Bd.bytes
  have hml : c.maxLocals = 1 := hml0
  have hown : s.vm.findClass "com/example/plainwire/plainwire/rfc806/Element" = some m.cls := findClass_of_methodNamed Bd.named
  have X0 : Stand p l e ({ frames := 0, cells := 0, slots := 0, locals := 0 } : Room) s m #[(.ref s_SET)] below meth c s₁ [] 0 0 := Stand.of_body Bd
  have e0 : s₁.heap = h0 := by rw [← hh, Bd.state]; rfl
  have N0 := Fr.nil n0
  have pre0 : ∀ t, Steps p.tables e below (s₁.setTop (mkF m 0 #[.val (.ref s_SET)] [])) t → Steps p.tables e below (s₁.setTop (entryFrame m #[(.ref s_SET)] 1)) t := fun t k => castTop (by first | (simp [entryFrame, mkF, argsToLocals, Value.category]; done) | rfl) k
  obtain ⟨T1, X1, e1, st1⟩ := getF X0 hx hZ hown (host := "") (Or.inl (hw _ (List.mem_of_getElem? (i := 13) rfl))) Via.refl e0 F_SET_code (g := (mkF m 1 #[.val (.ref s_SET)] [(.ref s_SET)])) rfl rfl (hb hby d1_1)
  obtain ⟨fs, hr, hrun, hended, hW, hsame⟩ := X1.leave (v := some (.int (0 : Int32))) (fun h => by rw [Bd.returns] at h; cases h)
  refine ⟨_, _, pre0 _ ?_, hrun, hended, _, _, rfl, ?_, ⟨_, rfl⟩, hW, hsame.mono (by decide) (by decide)⟩
  · show Steps p.tables e below (s₁.setTop (mkF m 0 #[.val (.ref s_SET)] [])) _
    refine XS.aloadN X0.here hx rfl (hb hby d1_0) rfl rfl ?_
    show Steps p.tables e below (s₁.setTop (mkF m 1 #[.val (.ref s_SET)] [(.ref s_SET)])) _
    refine st1 _ ?_
    show Steps p.tables e below (T1.setTop (mkF m 4 #[.val (.ref s_SET)] [(.int (11 : Int32))])) _
    refine XS.bipush X1.here hx rfl (hb hby d1_4) ?_
    show Steps p.tables e below (T1.setTop (mkF m 6 #[.val (.ref s_SET)] [(.int (64 : Int32)), (.int (11 : Int32))])) _
    refine XS.iand X1.here hx rfl (hb hby d1_6) rfl ?_
    show Steps p.tables e below (T1.setTop (mkF m 7 #[.val (.ref s_SET)] [(.int ((11 : Int32) &&& (64 : Int32)))])) _
    rw [show ((11 : Int32) &&& (64 : Int32)) = (0 : Int32) from by decide +kernel]
    show Steps p.tables e below (T1.setTop (mkF m 7 #[.val (.ref s_SET)] [(.int (0 : Int32))])) _
    refine XS.ifYes X1.here hx rfl (pc0 := 7) (pc' := 14) rfl (hb hby d1_7) rfl (by decide +kernel) (by decide) (by decide) ?_
    show Steps p.tables e below (T1.setTop (mkF m 14 #[.val (.ref s_SET)] [])) _
    refine XS.iconst X1.here hx rfl (hb hby d1_14) ?_
    show Steps p.tables e below (T1.setTop (mkF m 15 #[.val (.ref s_SET)] [(.int (0 : Int32))])) _
    exact retN X1 hx (t := .boolean) Bd.returns (by simp) (hb hby d1_15) hr
  · exact ⟨rfl, N0, e1⟩
set_option maxRecDepth 65536 in
set_option maxHeartbeats 40000000 in
theorem r26 (l : Launch) (Z : State) (a0 : Array Value) (hw : ∀ d ∈ tables_1, d.before a0 Z = true) (ws : List Jvm.Cond) (h0 : Heap) (n0 : Nat) (s_NO_OP : Addr) (s_END_OF_CONSTRUCTOR : Addr) (s_ASCII_STRING : Addr) (s_BOOLEAN : Addr) (s_UNIQUE_ID : Addr) (s_SEQUENCE : Addr) (s_SET : Addr) (s_INTEGER : Addr) (s_PADDING : Addr) (s_PROPERTY_LIST : Addr) (s_DATE : Addr) (s_BIT_STRING : Addr) (t_BIT_STRING_qualifierTag : Addr) (s_PROPERTY : Addr) (s_FIELD : Addr) (t_FIELD_qualifierTag : Addr) (s_COMPRESSED : Addr) (s_ENCRYPTED : Addr) (t_ENCRYPTED_qualifierTag : Addr) (s_MESSAGE : Addr) (t_MESSAGE_qualifierTag : Addr) (s_EXTENSION : Addr) (s_VENDOR_DEFINED : Addr) (K : Ctx Z h0 s_NO_OP s_END_OF_CONSTRUCTOR s_ASCII_STRING s_BOOLEAN s_UNIQUE_ID s_SEQUENCE s_SET s_INTEGER s_PADDING s_PROPERTY_LIST s_DATE s_BIT_STRING t_BIT_STRING_qualifierTag s_PROPERTY s_FIELD t_FIELD_qualifierTag s_COMPRESSED s_ENCRYPTED t_ENCRYPTED_qualifierTag s_MESSAGE t_MESSAGE_qualifierTag s_EXTENSION s_VENDOR_DEFINED) :
    MetFree l (⟨"com/example/plainwire/plainwire/rfc806/Element", "qualifierTag", "()Ljava/lang/String;"⟩ : MethodName) (head1 (Jvm.Cond.code (⟨"com/example/plainwire/plainwire/rfc806/Element", "qualifierTag", "()Ljava/lang/String;"⟩ : MethodName) prog_101_method_10_code 1 (some (.object "java/lang/String")) :: ws) ({ frames := 0, cells := 0, slots := 0, locals := 0 } : Room)) (fun a U => a = #[(.ref s_SET)] ∧ Z.Warmed39 U.vm ∧ U.heap = h0) (fun _ _ _ _ _ => True) (fun _ U o U' => ∃ v L, o = .returned v ∧ QV .null h0 n0 v U'.heap L ∧ FrameEnd U o U' L ({ frames := 0, cells := 0, slots := 0, locals := 0 } : Room).cells ({ frames := 0, cells := 0, slots := 0, locals := 0 } : Room).slots) := by
  obtain ⟨S_NO_OP, F_NO_OP_code, E_NO_OP, F_NO_OP_qualifierTag, S_END_OF_CONSTRUCTOR, F_END_OF_CONSTRUCTOR_code, E_END_OF_CONSTRUCTOR, F_END_OF_CONSTRUCTOR_qualifierTag, S_ASCII_STRING, F_ASCII_STRING_code, E_ASCII_STRING, F_ASCII_STRING_qualifierTag, S_BOOLEAN, F_BOOLEAN_code, E_BOOLEAN, F_BOOLEAN_qualifierTag, S_UNIQUE_ID, F_UNIQUE_ID_code, E_UNIQUE_ID, F_UNIQUE_ID_qualifierTag, S_SEQUENCE, F_SEQUENCE_code, E_SEQUENCE, F_SEQUENCE_qualifierTag, S_SET, F_SET_code, E_SET, F_SET_qualifierTag, S_INTEGER, F_INTEGER_code, E_INTEGER, F_INTEGER_qualifierTag, S_PADDING, F_PADDING_code, E_PADDING, F_PADDING_qualifierTag, S_PROPERTY_LIST, F_PROPERTY_LIST_code, E_PROPERTY_LIST, F_PROPERTY_LIST_qualifierTag, S_DATE, F_DATE_code, E_DATE, F_DATE_qualifierTag, S_BIT_STRING, F_BIT_STRING_code, E_BIT_STRING, F_BIT_STRING_qualifierTag, S_PROPERTY, F_PROPERTY_code, E_PROPERTY, F_PROPERTY_qualifierTag, S_COMPRESSED, F_COMPRESSED_code, E_COMPRESSED, F_COMPRESSED_qualifierTag, S_ENCRYPTED, F_ENCRYPTED_code, E_ENCRYPTED, F_ENCRYPTED_qualifierTag, S_FIELD, F_FIELD_code, E_FIELD, F_FIELD_qualifierTag, S_MESSAGE, F_MESSAGE_code, E_MESSAGE, F_MESSAGE_qualifierTag, S_EXTENSION, F_EXTENSION_code, E_EXTENSION, F_EXTENSION_qualifierTag, S_VENDOR_DEFINED, F_VENDOR_DEFINED_code, E_VENDOR_DEFINED, F_VENDOR_DEFINED_qualifierTag⟩ := id K
  refine MetFree.of_bodySF (plainFor_of_name pn2) hisR ?_
  intro p e s m args below meth c s₁ Bd hml0 hP hK
  obtain ⟨rfl, hZ, hh⟩ := hP
  have hx := Bd.exec
  have hby := Bd.bytes
  have hml : c.maxLocals = 1 := hml0
  have hown : s.vm.findClass "com/example/plainwire/plainwire/rfc806/Element" = some m.cls := findClass_of_methodNamed Bd.named
  have X0 : Stand p l e ({ frames := 0, cells := 0, slots := 0, locals := 0 } : Room) s m #[(.ref s_SET)] below meth c s₁ [] 0 0 := Stand.of_body Bd
  have e0 : s₁.heap = h0 := by rw [← hh, Bd.state]; rfl
  have N0 := Fr.nil n0
  have pre0 : ∀ t, Steps p.tables e below (s₁.setTop (mkF m 0 #[.val (.ref s_SET)] [])) t → Steps p.tables e below (s₁.setTop (entryFrame m #[(.ref s_SET)] 1)) t := fun t k => castTop (by first | (simp [entryFrame, mkF, argsToLocals, Value.category]; done) | rfl) k
  obtain ⟨T1, X1, e1, st1⟩ := getF X0 hx hZ hown (host := "") (Or.inl (hw _ (List.mem_of_getElem? (i := 20) rfl))) Via.refl e0 F_SET_qualifierTag (g := (mkF m 1 #[.val (.ref s_SET)] [(.ref s_SET)])) rfl rfl (hb hby d2_1)
  obtain ⟨fs, hr, hrun, hended, hW, hsame⟩ := X1.leave (v := some .null) (fun h => by rw [Bd.returns] at h; cases h)
  refine ⟨_, _, pre0 _ ?_, hrun, hended, _, _, rfl, ?_, ⟨_, rfl⟩, hW, hsame.mono (by decide) (by decide)⟩
  · show Steps p.tables e below (s₁.setTop (mkF m 0 #[.val (.ref s_SET)] [])) _
    refine XS.aloadN X0.here hx rfl (hb hby d2_0) rfl rfl ?_
    show Steps p.tables e below (s₁.setTop (mkF m 1 #[.val (.ref s_SET)] [(.ref s_SET)])) _
    refine st1 _ ?_
    show Steps p.tables e below (T1.setTop (mkF m 4 #[.val (.ref s_SET)] [.null])) _
    exact retOut X1 hx (i := .areturn) Bd.returns rfl (Or.inr (Or.inr (Or.inr (Or.inr ⟨rfl, rfl, rfl⟩)))) (hb hby d2_4) hr
  · exact ⟨rfl, N0, e1⟩
set_option maxRecDepth 65536 in
set_option maxHeartbeats 40000000 in
theorem law_k6 (l : Launch) (Z : State) (a0 : Array Value) (hw : ∀ d ∈ tables_1, d.before a0 Z = true) (ws : List Jvm.Cond) (h0 : Heap) (n0 : Nat) (s_NO_OP : Addr) (s_END_OF_CONSTRUCTOR : Addr) (s_ASCII_STRING : Addr) (s_BOOLEAN : Addr) (s_UNIQUE_ID : Addr) (s_SEQUENCE : Addr) (s_SET : Addr) (s_INTEGER : Addr) (s_PADDING : Addr) (s_PROPERTY_LIST : Addr) (s_DATE : Addr) (s_BIT_STRING : Addr) (t_BIT_STRING_qualifierTag : Addr) (s_PROPERTY : Addr) (s_FIELD : Addr) (t_FIELD_qualifierTag : Addr) (s_COMPRESSED : Addr) (s_ENCRYPTED : Addr) (t_ENCRYPTED_qualifierTag : Addr) (s_MESSAGE : Addr) (t_MESSAGE_qualifierTag : Addr) (s_EXTENSION : Addr) (s_VENDOR_DEFINED : Addr) (K : Ctx Z h0 s_NO_OP s_END_OF_CONSTRUCTOR s_ASCII_STRING s_BOOLEAN s_UNIQUE_ID s_SEQUENCE s_SET s_INTEGER s_PADDING s_PROPERTY_LIST s_DATE s_BIT_STRING t_BIT_STRING_qualifierTag s_PROPERTY s_FIELD t_FIELD_qualifierTag s_COMPRESSED s_ENCRYPTED t_ENCRYPTED_qualifierTag s_MESSAGE t_MESSAGE_qualifierTag s_EXTENSION s_VENDOR_DEFINED) (p0 : Int32) (hp0 : ((p0 &&& (2147483647 : Int32)) % (19 : Int32)) = (6 : Int32)) :
    MetFree l x (head1 (Jvm.Cond.code x code maxLocals ret :: ws) room_1) (fun a U => a = #[(.int p0)] ∧ Z.Warmed39 U.vm ∧ U.heap = h0) (fun _ _ _ _ _ => True) (fun _ U o U' => ∃ v L, o = .returned v ∧ QV (.int (1 : Int32)) h0 n0 v U'.heap L ∧ FrameEnd U o U' L room_1.cells room_1.slots) := by
  obtain ⟨S_NO_OP, F_NO_OP_code, E_NO_OP, F_NO_OP_qualifierTag, S_END_OF_CONSTRUCTOR, F_END_OF_CONSTRUCTOR_code, E_END_OF_CONSTRUCTOR, F_END_OF_CONSTRUCTOR_qualifierTag, S_ASCII_STRING, F_ASCII_STRING_code, E_ASCII_STRING, F_ASCII_STRING_qualifierTag, S_BOOLEAN, F_BOOLEAN_code, E_BOOLEAN, F_BOOLEAN_qualifierTag, S_UNIQUE_ID, F_UNIQUE_ID_code, E_UNIQUE_ID, F_UNIQUE_ID_qualifierTag, S_SEQUENCE, F_SEQUENCE_code, E_SEQUENCE, F_SEQUENCE_qualifierTag, S_SET, F_SET_code, E_SET, F_SET_qualifierTag, S_INTEGER, F_INTEGER_code, E_INTEGER, F_INTEGER_qualifierTag, S_PADDING, F_PADDING_code, E_PADDING, F_PADDING_qualifierTag, S_PROPERTY_LIST, F_PROPERTY_LIST_code, E_PROPERTY_LIST, F_PROPERTY_LIST_qualifierTag, S_DATE, F_DATE_code, E_DATE, F_DATE_qualifierTag, S_BIT_STRING, F_BIT_STRING_code, E_BIT_STRING, F_BIT_STRING_qualifierTag, S_PROPERTY, F_PROPERTY_code, E_PROPERTY, F_PROPERTY_qualifierTag, S_COMPRESSED, F_COMPRESSED_code, E_COMPRESSED, F_COMPRESSED_qualifierTag, S_ENCRYPTED, F_ENCRYPTED_code, E_ENCRYPTED, F_ENCRYPTED_qualifierTag, S_FIELD, F_FIELD_code, E_FIELD, F_FIELD_qualifierTag, S_MESSAGE, F_MESSAGE_code, E_MESSAGE, F_MESSAGE_qualifierTag, S_EXTENSION, F_EXTENSION_code, E_EXTENSION, F_EXTENSION_qualifierTag, S_VENDOR_DEFINED, F_VENDOR_DEFINED_code, E_VENDOR_DEFINED, F_VENDOR_DEFINED_qualifierTag⟩ := id K
  refine MetFree.of_bodySF (plainFor_of_name pn3) hisR ?_
  intro p e s m args below meth c s₁ Bd hml0 hP hK
  obtain ⟨rfl, hZ, hh⟩ := hP
  have hx := Bd.exec
  have hby := Bd.bytes
  have hml : c.maxLocals = 6 := hml0
  have hown : s.vm.findClass "com/example/plainwire/plainwire/rfc806/ElementQualifiedPinLaw" = some m.cls := findClass_of_methodNamed Bd.named
  have X0 : Stand p l e room_1 s m #[(.int p0)] below meth c s₁ [] 0 0 := Stand.of_body Bd
  have e0 : s₁.heap = h0 := by rw [← hh, Bd.state]; rfl
  have N0 := Fr.nil n0
  have pre0 : ∀ t, Steps p.tables e below (s₁.setTop (mkF m 0 #[.val (.int p0), .unset, .unset, .unset, .unset, .unset] [])) t → Steps p.tables e below (s₁.setTop (entryFrame m #[(.int p0)] maxLocals)) t := fun t k => castTop (by first | (simp [entryFrame, mkF, argsToLocals, Value.category, maxLocals]; done) | rfl) k
  obtain ⟨_, _, ⟨T1, L1, k1, n1⟩, -, X1, ⟨Lc1, hQ1, l1, y1, z1⟩, st1⟩ := Jvm.LawKit.callS X0 hx (y := (⟨"com/example/plainwire/plainwire/rfc806/ElementQualifiedPinLaw", "pick", "(I)Lcom/example/plainwire/plainwire/rfc806/Element;"⟩ : MethodName)) hown (mvT hZ (hw _ (List.mem_of_getElem? (i := 1) rfl))) (mvT hZ (hw _ (List.mem_of_getElem? (i := 2) rfl))) (mvT hZ (hw _ (List.mem_of_getElem? (i := 3) rfl))) (mvT hZ (hw _ (List.mem_of_getElem? (i := 4) rfl))) (by decide) (backOf (W := 0) (r24 l Z a0 hw [] h0 n0 s_NO_OP s_END_OF_CONSTRUCTOR s_ASCII_STRING s_BOOLEAN s_UNIQUE_ID s_SEQUENCE s_SET s_INTEGER s_PADDING s_PROPERTY_LIST s_DATE s_BIT_STRING t_BIT_STRING_qualifierTag s_PROPERTY s_FIELD t_FIELD_qualifierTag s_COMPRESSED s_ENCRYPTED t_ENCRYPTED_qualifierTag s_MESSAGE t_MESSAGE_qualifierTag s_EXTENSION s_VENDOR_DEFINED K) hZ (hw _ (List.mem_of_getElem? (i := 4) rfl)) (hw _ (List.mem_of_getElem? (i := 3) rfl)) (by decide) (by decide)) (g := (mkF m 9 #[.val (.int p0), .val (.int (6 : Int32)), .unset, .unset, .unset, .unset] [(.int (6 : Int32))])) rfl (by rw [hml]; rfl) (argsL := [(.int (6 : Int32))]) (rest := []) (lenOf pd0 rfl) rfl (by show 2 * 0 + _ ≤ _; exact Nat.le_of_eq rfl) (hb hby at_9) (fun _ _ => ⟨rfl, e0, (by decide : 0 + 0 ≤ _), (by decide : 0 + 0 ≤ _)⟩)
  dsimp only [Pt.U, Pt.locs, Pt.cells, Pt.slots] at X1 l1 y1 z1 st1 hQ1
  subst l1 y1 z1
  obtain ⟨rfl, N1q, e1⟩ := hQ1
  have N1 := Fr.app N0 N1q
  obtain ⟨cq2, kq2, q2a, q2b, q2c⟩ := isOf hZ e1 E_SET
  obtain ⟨_, _, ⟨T2, L2, k2, n2⟩, -, X2, ⟨Lc2, hQ2, l2, y2, z2⟩, st2⟩ := X1.virtualBack hx (y := (⟨"com/example/plainwire/plainwire/rfc806/Element", "qualified", "()Z"⟩ : MethodName)) (z := (⟨"com/example/plainwire/plainwire/rfc806/Element", "qualified", "()Z"⟩ : MethodName)) hown (mvT hZ (hw _ (List.mem_of_getElem? (i := 8) rfl))) (mvT hZ (hw _ (List.mem_of_getElem? (i := 9) rfl))) (notFace_of_selects (args := #[]) (mvT hZ (hw _ (List.mem_of_getElem? (i := 11) rfl)))) (mvT hZ (hw _ (List.mem_of_getElem? (i := 11) rfl))) (mvT hZ (hw _ (List.mem_of_getElem? (i := 10) rfl))) (by decide) (backOf (W := 0) (r25 l Z a0 hw [] h0 n0 s_NO_OP s_END_OF_CONSTRUCTOR s_ASCII_STRING s_BOOLEAN s_UNIQUE_ID s_SEQUENCE s_SET s_INTEGER s_PADDING s_PROPERTY_LIST s_DATE s_BIT_STRING t_BIT_STRING_qualifierTag s_PROPERTY s_FIELD t_FIELD_qualifierTag s_COMPRESSED s_ENCRYPTED t_ENCRYPTED_qualifierTag s_MESSAGE t_MESSAGE_qualifierTag s_EXTENSION s_VENDOR_DEFINED K) hZ (hw _ (List.mem_of_getElem? (i := 12) rfl)) (hw _ (List.mem_of_getElem? (i := 6) rfl)) (by decide) (by decide)) q2a q2c (g := (mkF m 26 #[.val (.int p0), .val (.int (6 : Int32)), .val (.ref s_SET), .val (.int (0 : Int32)), .unset, .unset] [(.ref s_SET)])) rfl (by rw [hml]; rfl) (Steps.refl _) (argsL := []) (rest := []) (lenOf pd1 rfl) rfl (by show 2 * 0 + _ ≤ _; exact Nat.le_of_eq rfl) (hb hby at_26) (fun _ _ => ⟨rfl, e1, (by decide : 0 + 0 ≤ _), (by decide : 0 + 0 ≤ _)⟩)
  dsimp only [Pt.U, Pt.locs, Pt.cells, Pt.slots] at X2 l2 y2 z2 st2 hQ2
  subst l2 y2 z2
  obtain ⟨rfl, N2q, e2⟩ := hQ2
  have N2 := Fr.app N1 N2q
  obtain ⟨cq3, kq3, q3a, q3b, q3c⟩ := isOf hZ e2 E_SET
  obtain ⟨_, _, ⟨T3, L3, k3, n3⟩, -, X3, ⟨Lc3, hQ3, l3, y3, z3⟩, st3⟩ := X2.virtualBack hx (y := (⟨"com/example/plainwire/plainwire/rfc806/Element", "qualifierTag", "()Ljava/lang/String;"⟩ : MethodName)) (z := (⟨"com/example/plainwire/plainwire/rfc806/Element", "qualifierTag", "()Ljava/lang/String;"⟩ : MethodName)) hown (mvT hZ (hw _ (List.mem_of_getElem? (i := 15) rfl))) (mvT hZ (hw _ (List.mem_of_getElem? (i := 16) rfl))) (notFace_of_selects (args := #[]) (mvT hZ (hw _ (List.mem_of_getElem? (i := 18) rfl)))) (mvT hZ (hw _ (List.mem_of_getElem? (i := 18) rfl))) (mvT hZ (hw _ (List.mem_of_getElem? (i := 17) rfl))) (by decide) (backOf (W := 0) (r26 l Z a0 hw [] h0 n0 s_NO_OP s_END_OF_CONSTRUCTOR s_ASCII_STRING s_BOOLEAN s_UNIQUE_ID s_SEQUENCE s_SET s_INTEGER s_PADDING s_PROPERTY_LIST s_DATE s_BIT_STRING t_BIT_STRING_qualifierTag s_PROPERTY s_FIELD t_FIELD_qualifierTag s_COMPRESSED s_ENCRYPTED t_ENCRYPTED_qualifierTag s_MESSAGE t_MESSAGE_qualifierTag s_EXTENSION s_VENDOR_DEFINED K) hZ (hw _ (List.mem_of_getElem? (i := 19) rfl)) (hw _ (List.mem_of_getElem? (i := 6) rfl)) (by decide) (by decide)) q3a q3c (g := (mkF m 32 #[.val (.int p0), .val (.int (6 : Int32)), .val (.ref s_SET), .val (.int (0 : Int32)), .val (.int (0 : Int32)), .unset] [(.ref s_SET)])) rfl (by rw [hml]; rfl) (Steps.refl _) (argsL := []) (rest := []) (lenOf pd2 rfl) rfl (by show 2 * 0 + _ ≤ _; exact Nat.le_of_eq rfl) (hb hby at_32) (fun _ _ => ⟨rfl, e2, (by decide : 0 + 0 ≤ _), (by decide : 0 + 0 ≤ _)⟩)
  dsimp only [Pt.U, Pt.locs, Pt.cells, Pt.slots] at X3 l3 y3 z3 st3 hQ3
  subst l3 y3 z3
  obtain ⟨rfl, N3q, e3⟩ := hQ3
  have N3 := Fr.app N2 N3q
  obtain ⟨fs, hr, hrun, hended, hW, hsame⟩ := X3.leave (v := some (.int (1 : Int32))) (fun h => by rw [Bd.returns] at h; cases h)
  refine ⟨_, _, pre0 _ ?_, hrun, hended, _, _, rfl, ?_, ⟨_, rfl⟩, hW, hsame.mono (by decide) (by decide)⟩
  · show Steps p.tables e below (s₁.setTop (mkF m 0 #[.val (.int p0), .unset, .unset, .unset, .unset, .unset] [])) _
    refine XS.iloadN X0.here hx rfl (hb hby at_0) rfl ?_
    show Steps p.tables e below (s₁.setTop (mkF m 1 #[.val (.int p0), .unset, .unset, .unset, .unset, .unset] [(.int p0)])) _
    refine X0.ldcInt hx hown (mvT hZ (hw _ (List.mem_of_getElem? (i := 0) rfl))) (g := (mkF m 1 #[.val (.int p0), .unset, .unset, .unset, .unset, .unset] [(.int p0)])) rfl (hb hby at_1) _ ?_
    show Steps p.tables e below (s₁.setTop (mkF m 3 #[.val (.int p0), .unset, .unset, .unset, .unset, .unset] [(.int (2147483647 : Int32)), (.int p0)])) _
    refine XS.iand X0.here hx rfl (hb hby at_3) rfl ?_
    show Steps p.tables e below (s₁.setTop (mkF m 4 #[.val (.int p0), .unset, .unset, .unset, .unset, .unset] [(.int (p0 &&& (2147483647 : Int32)))])) _
    refine XS.bipush X0.here hx rfl (hb hby at_4) ?_
    show Steps p.tables e below (s₁.setTop (mkF m 6 #[.val (.int p0), .unset, .unset, .unset, .unset, .unset] [(.int (19 : Int32)), (.int (p0 &&& (2147483647 : Int32)))])) _
    refine Jvm.RoadKit.iremM X0 hx rfl (hb hby at_6) rfl (by decide) ?_
    show Steps p.tables e below (s₁.setTop (mkF m 7 #[.val (.int p0), .unset, .unset, .unset, .unset, .unset] [(.int ((p0 &&& (2147483647 : Int32)) % (19 : Int32)))])) _
    rw [hp0]
    show Steps p.tables e below (s₁.setTop (mkF m 7 #[.val (.int p0), .unset, .unset, .unset, .unset, .unset] [(.int (6 : Int32))])) _
    refine XS.istoreN X0.here hx rfl (hb hby at_7) rfl (l' := #[.val (.int p0), .val (.int (6 : Int32)), .unset, .unset, .unset, .unset]) rfl ?_
    show Steps p.tables e below (s₁.setTop (mkF m 8 #[.val (.int p0), .val (.int (6 : Int32)), .unset, .unset, .unset, .unset] [])) _
    refine XS.iloadN X0.here hx rfl (hb hby at_8) rfl ?_
    show Steps p.tables e below (s₁.setTop (mkF m 9 #[.val (.int p0), .val (.int (6 : Int32)), .unset, .unset, .unset, .unset] [(.int (6 : Int32))])) _
    refine st1 _ ?_
    show Steps p.tables e below (T1.setTop (mkF m 12 #[.val (.int p0), .val (.int (6 : Int32)), .unset, .unset, .unset, .unset] [(.ref s_SET)])) _
    refine XS.astoreN X1.here hx rfl (hb hby at_12) rfl rfl (l' := #[.val (.int p0), .val (.int (6 : Int32)), .val (.ref s_SET), .unset, .unset, .unset]) rfl ?_
    show Steps p.tables e below (T1.setTop (mkF m 13 #[.val (.int p0), .val (.int (6 : Int32)), .val (.ref s_SET), .unset, .unset, .unset] [])) _
    refine XS.iloadN X1.here hx rfl (hb hby at_13) rfl ?_
    show Steps p.tables e below (T1.setTop (mkF m 14 #[.val (.int p0), .val (.int (6 : Int32)), .val (.ref s_SET), .unset, .unset, .unset] [(.int (6 : Int32))])) _
    refine XS.bipush X1.here hx rfl (hb hby at_14) ?_
    show Steps p.tables e below (T1.setTop (mkF m 16 #[.val (.int p0), .val (.int (6 : Int32)), .val (.ref s_SET), .unset, .unset, .unset] [(.int (11 : Int32)), (.int (6 : Int32))])) _
    refine XS.icmpYes X1.here hx rfl (pc0 := 16) (pc' := 23) rfl (hb hby at_16) rfl (by decide +kernel) (by decide) (by decide) ?_
    show Steps p.tables e below (T1.setTop (mkF m 23 #[.val (.int p0), .val (.int (6 : Int32)), .val (.ref s_SET), .unset, .unset, .unset] [])) _
    refine XS.iconst X1.here hx rfl (hb hby at_23) ?_
    show Steps p.tables e below (T1.setTop (mkF m 24 #[.val (.int p0), .val (.int (6 : Int32)), .val (.ref s_SET), .unset, .unset, .unset] [(.int (0 : Int32))])) _
    refine XS.istoreN X1.here hx rfl (hb hby at_24) rfl (l' := #[.val (.int p0), .val (.int (6 : Int32)), .val (.ref s_SET), .val (.int (0 : Int32)), .unset, .unset]) rfl ?_
    show Steps p.tables e below (T1.setTop (mkF m 25 #[.val (.int p0), .val (.int (6 : Int32)), .val (.ref s_SET), .val (.int (0 : Int32)), .unset, .unset] [])) _
    refine XS.aloadN X1.here hx rfl (hb hby at_25) rfl rfl ?_
    show Steps p.tables e below (T1.setTop (mkF m 26 #[.val (.int p0), .val (.int (6 : Int32)), .val (.ref s_SET), .val (.int (0 : Int32)), .unset, .unset] [(.ref s_SET)])) _
    refine st2.trans ?_
    show Steps p.tables e below (T2.setTop (mkF m 29 #[.val (.int p0), .val (.int (6 : Int32)), .val (.ref s_SET), .val (.int (0 : Int32)), .unset, .unset] [(.int (0 : Int32))])) _
    refine XS.istore X2.here hx rfl (hb hby at_29) rfl (l' := #[.val (.int p0), .val (.int (6 : Int32)), .val (.ref s_SET), .val (.int (0 : Int32)), .val (.int (0 : Int32)), .unset]) rfl ?_
    show Steps p.tables e below (T2.setTop (mkF m 31 #[.val (.int p0), .val (.int (6 : Int32)), .val (.ref s_SET), .val (.int (0 : Int32)), .val (.int (0 : Int32)), .unset] [])) _
    refine XS.aloadN X2.here hx rfl (hb hby at_31) rfl rfl ?_
    show Steps p.tables e below (T2.setTop (mkF m 32 #[.val (.int p0), .val (.int (6 : Int32)), .val (.ref s_SET), .val (.int (0 : Int32)), .val (.int (0 : Int32)), .unset] [(.ref s_SET)])) _
    refine st3.trans ?_
    show Steps p.tables e below (T3.setTop (mkF m 35 #[.val (.int p0), .val (.int (6 : Int32)), .val (.ref s_SET), .val (.int (0 : Int32)), .val (.int (0 : Int32)), .unset] [.null])) _
    refine XS.ifnullYes X3.here hx rfl (pc0 := 35) (pc' := 42) rfl (hb hby at_35) rfl (by decide) (by decide) ?_
    show Steps p.tables e below (T3.setTop (mkF m 42 #[.val (.int p0), .val (.int (6 : Int32)), .val (.ref s_SET), .val (.int (0 : Int32)), .val (.int (0 : Int32)), .unset] [])) _
    refine XS.iconst X3.here hx rfl (hb hby at_42) ?_
    show Steps p.tables e below (T3.setTop (mkF m 43 #[.val (.int p0), .val (.int (6 : Int32)), .val (.ref s_SET), .val (.int (0 : Int32)), .val (.int (0 : Int32)), .unset] [(.int (0 : Int32))])) _
    refine XS.istore X3.here hx rfl (hb hby at_43) rfl (l' := #[.val (.int p0), .val (.int (6 : Int32)), .val (.ref s_SET), .val (.int (0 : Int32)), .val (.int (0 : Int32)), .val (.int (0 : Int32))]) rfl ?_
    show Steps p.tables e below (T3.setTop (mkF m 45 #[.val (.int p0), .val (.int (6 : Int32)), .val (.ref s_SET), .val (.int (0 : Int32)), .val (.int (0 : Int32)), .val (.int (0 : Int32))] [])) _
    refine XS.iload X3.here hx rfl (hb hby at_45) rfl ?_
    show Steps p.tables e below (T3.setTop (mkF m 47 #[.val (.int p0), .val (.int (6 : Int32)), .val (.ref s_SET), .val (.int (0 : Int32)), .val (.int (0 : Int32)), .val (.int (0 : Int32))] [(.int (0 : Int32))])) _
    refine XS.iloadN X3.here hx rfl (hb hby at_47) rfl ?_
    show Steps p.tables e below (T3.setTop (mkF m 48 #[.val (.int p0), .val (.int (6 : Int32)), .val (.ref s_SET), .val (.int (0 : Int32)), .val (.int (0 : Int32)), .val (.int (0 : Int32))] [(.int (0 : Int32)), (.int (0 : Int32))])) _
    refine XS.icmpNo X3.here hx rfl (hb hby at_48) rfl (by decide +kernel) ?_
    show Steps p.tables e below (T3.setTop (mkF m 51 #[.val (.int p0), .val (.int (6 : Int32)), .val (.ref s_SET), .val (.int (0 : Int32)), .val (.int (0 : Int32)), .val (.int (0 : Int32))] [])) _
    refine XS.iload X3.here hx rfl (hb hby at_51) rfl ?_
    show Steps p.tables e below (T3.setTop (mkF m 53 #[.val (.int p0), .val (.int (6 : Int32)), .val (.ref s_SET), .val (.int (0 : Int32)), .val (.int (0 : Int32)), .val (.int (0 : Int32))] [(.int (0 : Int32))])) _
    refine XS.iload X3.here hx rfl (hb hby at_53) rfl ?_
    show Steps p.tables e below (T3.setTop (mkF m 55 #[.val (.int p0), .val (.int (6 : Int32)), .val (.ref s_SET), .val (.int (0 : Int32)), .val (.int (0 : Int32)), .val (.int (0 : Int32))] [(.int (0 : Int32)), (.int (0 : Int32))])) _
    refine XS.icmpNo X3.here hx rfl (hb hby at_55) rfl (by decide +kernel) ?_
    show Steps p.tables e below (T3.setTop (mkF m 58 #[.val (.int p0), .val (.int (6 : Int32)), .val (.ref s_SET), .val (.int (0 : Int32)), .val (.int (0 : Int32)), .val (.int (0 : Int32))] [])) _
    refine XS.iconst X3.here hx rfl (hb hby at_58) ?_
    show Steps p.tables e below (T3.setTop (mkF m 59 #[.val (.int p0), .val (.int (6 : Int32)), .val (.ref s_SET), .val (.int (0 : Int32)), .val (.int (0 : Int32)), .val (.int (0 : Int32))] [(.int (1 : Int32))])) _
    refine XS.goto X3.here hx rfl (pc0 := 59) (pc' := 63) rfl (hb hby at_59) (by decide) (by decide) ?_
    show Steps p.tables e below (T3.setTop (mkF m 63 #[.val (.int p0), .val (.int (6 : Int32)), .val (.ref s_SET), .val (.int (0 : Int32)), .val (.int (0 : Int32)), .val (.int (0 : Int32))] [(.int (1 : Int32))])) _
    exact retN X3 hx (t := .boolean) Bd.returns (by simp) (hb hby at_63) hr
  · exact ⟨rfl, N3, e3⟩
set_option maxRecDepth 65536 in
set_option maxHeartbeats 40000000 in
theorem r28 (l : Launch) (Z : State) (a0 : Array Value) (hw : ∀ d ∈ tables_1, d.before a0 Z = true) (ws : List Jvm.Cond) (h0 : Heap) (n0 : Nat) (s_NO_OP : Addr) (s_END_OF_CONSTRUCTOR : Addr) (s_ASCII_STRING : Addr) (s_BOOLEAN : Addr) (s_UNIQUE_ID : Addr) (s_SEQUENCE : Addr) (s_SET : Addr) (s_INTEGER : Addr) (s_PADDING : Addr) (s_PROPERTY_LIST : Addr) (s_DATE : Addr) (s_BIT_STRING : Addr) (t_BIT_STRING_qualifierTag : Addr) (s_PROPERTY : Addr) (s_FIELD : Addr) (t_FIELD_qualifierTag : Addr) (s_COMPRESSED : Addr) (s_ENCRYPTED : Addr) (t_ENCRYPTED_qualifierTag : Addr) (s_MESSAGE : Addr) (t_MESSAGE_qualifierTag : Addr) (s_EXTENSION : Addr) (s_VENDOR_DEFINED : Addr) (K : Ctx Z h0 s_NO_OP s_END_OF_CONSTRUCTOR s_ASCII_STRING s_BOOLEAN s_UNIQUE_ID s_SEQUENCE s_SET s_INTEGER s_PADDING s_PROPERTY_LIST s_DATE s_BIT_STRING t_BIT_STRING_qualifierTag s_PROPERTY s_FIELD t_FIELD_qualifierTag s_COMPRESSED s_ENCRYPTED t_ENCRYPTED_qualifierTag s_MESSAGE t_MESSAGE_qualifierTag s_EXTENSION s_VENDOR_DEFINED) :
    MetFree l (⟨"com/example/plainwire/plainwire/rfc806/ElementQualifiedPinLaw", "pick", "(I)Lcom/example/plainwire/plainwire/rfc806/Element;"⟩ : MethodName) (head1 (Jvm.Cond.code (⟨"com/example/plainwire/plainwire/rfc806/ElementQualifiedPinLaw", "pick", "(I)Lcom/example/plainwire/plainwire/rfc806/Element;"⟩ : MethodName) method_2_code 1 (some (.object "com/example/plainwire/plainwire/rfc806/Element")) :: ws) ({ frames := 0, cells := 0, slots := 0, locals := 0 } : Room)) (fun a U => a = #[(.int (7 : Int32))] ∧ Z.Warmed39 U.vm ∧ U.heap = h0) (fun _ _ _ _ _ => True) (fun _ U o U' => ∃ v L, o = .returned v ∧ QV (.ref s_INTEGER) h0 n0 v U'.heap L ∧ FrameEnd U o U' L ({ frames := 0, cells := 0, slots := 0, locals := 0 } : Room).cells ({ frames := 0, cells := 0, slots := 0, locals := 0 } : Room).slots) := by
  obtain ⟨S_NO_OP, F_NO_OP_code, E_NO_OP, F_NO_OP_qualifierTag, S_END_OF_CONSTRUCTOR, F_END_OF_CONSTRUCTOR_code, E_END_OF_CONSTRUCTOR, F_END_OF_CONSTRUCTOR_qualifierTag, S_ASCII_STRING, F_ASCII_STRING_code, E_ASCII_STRING, F_ASCII_STRING_qualifierTag, S_BOOLEAN, F_BOOLEAN_code, E_BOOLEAN, F_BOOLEAN_qualifierTag, S_UNIQUE_ID, F_UNIQUE_ID_code, E_UNIQUE_ID, F_UNIQUE_ID_qualifierTag, S_SEQUENCE, F_SEQUENCE_code, E_SEQUENCE, F_SEQUENCE_qualifierTag, S_SET, F_SET_code, E_SET, F_SET_qualifierTag, S_INTEGER, F_INTEGER_code, E_INTEGER, F_INTEGER_qualifierTag, S_PADDING, F_PADDING_code, E_PADDING, F_PADDING_qualifierTag, S_PROPERTY_LIST, F_PROPERTY_LIST_code, E_PROPERTY_LIST, F_PROPERTY_LIST_qualifierTag, S_DATE, F_DATE_code, E_DATE, F_DATE_qualifierTag, S_BIT_STRING, F_BIT_STRING_code, E_BIT_STRING, F_BIT_STRING_qualifierTag, S_PROPERTY, F_PROPERTY_code, E_PROPERTY, F_PROPERTY_qualifierTag, S_COMPRESSED, F_COMPRESSED_code, E_COMPRESSED, F_COMPRESSED_qualifierTag, S_ENCRYPTED, F_ENCRYPTED_code, E_ENCRYPTED, F_ENCRYPTED_qualifierTag, S_FIELD, F_FIELD_code, E_FIELD, F_FIELD_qualifierTag, S_MESSAGE, F_MESSAGE_code, E_MESSAGE, F_MESSAGE_qualifierTag, S_EXTENSION, F_EXTENSION_code, E_EXTENSION, F_EXTENSION_qualifierTag, S_VENDOR_DEFINED, F_VENDOR_DEFINED_code, E_VENDOR_DEFINED, F_VENDOR_DEFINED_qualifierTag⟩ := id K
  refine MetFree.of_bodySF (plainFor_of_name pn0) hisR ?_
  intro p e s m args below meth c s₁ Bd hml0 hP hK
  obtain ⟨rfl, hZ, hh⟩ := hP
  have hx := Bd.exec
  have hby := Bd.bytes
  have hml : c.maxLocals = 1 := hml0
  have hown : s.vm.findClass "com/example/plainwire/plainwire/rfc806/ElementQualifiedPinLaw" = some m.cls := findClass_of_methodNamed Bd.named
  have X0 : Stand p l e ({ frames := 0, cells := 0, slots := 0, locals := 0 } : Room) s m #[(.int (7 : Int32))] below meth c s₁ [] 0 0 := Stand.of_body Bd
  have e0 : s₁.heap = h0 := by rw [← hh, Bd.state]; rfl
  have N0 := Fr.nil n0
  have pre0 : ∀ t, Steps p.tables e below (s₁.setTop (mkF m 0 #[.val (.int (7 : Int32))] [])) t → Steps p.tables e below (s₁.setTop (entryFrame m #[(.int (7 : Int32))] 1)) t := fun t k => castTop (by first | (simp [entryFrame, mkF, argsToLocals, Value.category]; done) | rfl) k
  obtain ⟨T1, X1, e1, st1⟩ := getS X0 hx hZ hown (host := "") (hw _ (List.mem_of_getElem? (i := 30) rfl)) Via.refl e0 S_INTEGER (g := (mkF m 69 #[.val (.int (7 : Int32))] [])) rfl (hb hby d0_69)
  obtain ⟨fs, hr, hrun, hended, hW, hsame⟩ := X1.leave (v := some (.ref s_INTEGER)) (fun h => by rw [Bd.returns] at h; cases h)
  refine ⟨_, _, pre0 _ ?_, hrun, hended, _, _, rfl, ?_, ⟨_, rfl⟩, hW, hsame.mono (by decide) (by decide)⟩
  · show Steps p.tables e below (s₁.setTop (mkF m 0 #[.val (.int (7 : Int32))] [])) _
    refine XS.iloadN X0.here hx rfl (hb hby d0_0) rfl ?_
    show Steps p.tables e below (s₁.setTop (mkF m 1 #[.val (.int (7 : Int32))] [(.int (7 : Int32))])) _
    refine XS.ifYes X0.here hx rfl (pc0 := 1) (pc' := 8) rfl (hb hby d0_1) rfl (by decide +kernel) (by decide) (by decide) ?_
    show Steps p.tables e below (s₁.setTop (mkF m 8 #[.val (.int (7 : Int32))] [])) _
    refine XS.iloadN X0.here hx rfl (hb hby d0_8) rfl ?_
    show Steps p.tables e below (s₁.setTop (mkF m 9 #[.val (.int (7 : Int32))] [(.int (7 : Int32))])) _
    refine XS.iconst X0.here hx rfl (hb hby d0_9) ?_
    show Steps p.tables e below (s₁.setTop (mkF m 10 #[.val (.int (7 : Int32))] [(.int (1 : Int32)), (.int (7 : Int32))])) _
    refine XS.icmpYes X0.here hx rfl (pc0 := 10) (pc' := 17) rfl (hb hby d0_10) rfl (by decide +kernel) (by decide) (by decide) ?_
    show Steps p.tables e below (s₁.setTop (mkF m 17 #[.val (.int (7 : Int32))] [])) _
    refine XS.iloadN X0.here hx rfl (hb hby d0_17) rfl ?_
    show Steps p.tables e below (s₁.setTop (mkF m 18 #[.val (.int (7 : Int32))] [(.int (7 : Int32))])) _
    refine XS.iconst X0.here hx rfl (hb hby d0_18) ?_
    show Steps p.tables e below (s₁.setTop (mkF m 19 #[.val (.int (7 : Int32))] [(.int (2 : Int32)), (.int (7 : Int32))])) _
    refine XS.icmpYes X0.here hx rfl (pc0 := 19) (pc' := 26) rfl (hb hby d0_19) rfl (by decide +kernel) (by decide) (by decide) ?_
    show Steps p.tables e below (s₁.setTop (mkF m 26 #[.val (.int (7 : Int32))] [])) _
    refine XS.iloadN X0.here hx rfl (hb hby d0_26) rfl ?_
    show Steps p.tables e below (s₁.setTop (mkF m 27 #[.val (.int (7 : Int32))] [(.int (7 : Int32))])) _
    refine XS.iconst X0.here hx rfl (hb hby d0_27) ?_
    show Steps p.tables e below (s₁.setTop (mkF m 28 #[.val (.int (7 : Int32))] [(.int (3 : Int32)), (.int (7 : Int32))])) _
    refine XS.icmpYes X0.here hx rfl (pc0 := 28) (pc' := 35) rfl (hb hby d0_28) rfl (by decide +kernel) (by decide) (by decide) ?_
    show Steps p.tables e below (s₁.setTop (mkF m 35 #[.val (.int (7 : Int32))] [])) _
    refine XS.iloadN X0.here hx rfl (hb hby d0_35) rfl ?_
    show Steps p.tables e below (s₁.setTop (mkF m 36 #[.val (.int (7 : Int32))] [(.int (7 : Int32))])) _
    refine XS.iconst X0.here hx rfl (hb hby d0_36) ?_
    show Steps p.tables e below (s₁.setTop (mkF m 37 #[.val (.int (7 : Int32))] [(.int (4 : Int32)), (.int (7 : Int32))])) _
    refine XS.icmpYes X0.here hx rfl (pc0 := 37) (pc' := 44) rfl (hb hby d0_37) rfl (by decide +kernel) (by decide) (by decide) ?_
    show Steps p.tables e below (s₁.setTop (mkF m 44 #[.val (.int (7 : Int32))] [])) _
    refine XS.iloadN X0.here hx rfl (hb hby d0_44) rfl ?_
    show Steps p.tables e below (s₁.setTop (mkF m 45 #[.val (.int (7 : Int32))] [(.int (7 : Int32))])) _
    refine XS.iconst X0.here hx rfl (hb hby d0_45) ?_
    show Steps p.tables e below (s₁.setTop (mkF m 46 #[.val (.int (7 : Int32))] [(.int (5 : Int32)), (.int (7 : Int32))])) _
    refine XS.icmpYes X0.here hx rfl (pc0 := 46) (pc' := 53) rfl (hb hby d0_46) rfl (by decide +kernel) (by decide) (by decide) ?_
    show Steps p.tables e below (s₁.setTop (mkF m 53 #[.val (.int (7 : Int32))] [])) _
    refine XS.iloadN X0.here hx rfl (hb hby d0_53) rfl ?_
    show Steps p.tables e below (s₁.setTop (mkF m 54 #[.val (.int (7 : Int32))] [(.int (7 : Int32))])) _
    refine XS.bipush X0.here hx rfl (hb hby d0_54) ?_
    show Steps p.tables e below (s₁.setTop (mkF m 56 #[.val (.int (7 : Int32))] [(.int (6 : Int32)), (.int (7 : Int32))])) _
    refine XS.icmpYes X0.here hx rfl (pc0 := 56) (pc' := 63) rfl (hb hby d0_56) rfl (by decide +kernel) (by decide) (by decide) ?_
    show Steps p.tables e below (s₁.setTop (mkF m 63 #[.val (.int (7 : Int32))] [])) _
    refine XS.iloadN X0.here hx rfl (hb hby d0_63) rfl ?_
    show Steps p.tables e below (s₁.setTop (mkF m 64 #[.val (.int (7 : Int32))] [(.int (7 : Int32))])) _
    refine XS.bipush X0.here hx rfl (hb hby d0_64) ?_
    show Steps p.tables e below (s₁.setTop (mkF m 66 #[.val (.int (7 : Int32))] [(.int (7 : Int32)), (.int (7 : Int32))])) _
    refine XS.icmpNo X0.here hx rfl (hb hby d0_66) rfl (by decide +kernel) ?_
    show Steps p.tables e below (s₁.setTop (mkF m 69 #[.val (.int (7 : Int32))] [])) _
    refine st1 _ ?_
    show Steps p.tables e below (T1.setTop (mkF m 72 #[.val (.int (7 : Int32))] [(.ref s_INTEGER)])) _
    exact retOut X1 hx (i := .areturn) Bd.returns rfl (Or.inr (Or.inr (Or.inr (Or.inr ⟨rfl, rfl, rfl⟩)))) (hb hby d0_72) hr
  · exact ⟨rfl, N0, e1⟩
set_option maxRecDepth 65536 in
set_option maxHeartbeats 40000000 in
theorem r29 (l : Launch) (Z : State) (a0 : Array Value) (hw : ∀ d ∈ tables_1, d.before a0 Z = true) (ws : List Jvm.Cond) (h0 : Heap) (n0 : Nat) (s_NO_OP : Addr) (s_END_OF_CONSTRUCTOR : Addr) (s_ASCII_STRING : Addr) (s_BOOLEAN : Addr) (s_UNIQUE_ID : Addr) (s_SEQUENCE : Addr) (s_SET : Addr) (s_INTEGER : Addr) (s_PADDING : Addr) (s_PROPERTY_LIST : Addr) (s_DATE : Addr) (s_BIT_STRING : Addr) (t_BIT_STRING_qualifierTag : Addr) (s_PROPERTY : Addr) (s_FIELD : Addr) (t_FIELD_qualifierTag : Addr) (s_COMPRESSED : Addr) (s_ENCRYPTED : Addr) (t_ENCRYPTED_qualifierTag : Addr) (s_MESSAGE : Addr) (t_MESSAGE_qualifierTag : Addr) (s_EXTENSION : Addr) (s_VENDOR_DEFINED : Addr) (K : Ctx Z h0 s_NO_OP s_END_OF_CONSTRUCTOR s_ASCII_STRING s_BOOLEAN s_UNIQUE_ID s_SEQUENCE s_SET s_INTEGER s_PADDING s_PROPERTY_LIST s_DATE s_BIT_STRING t_BIT_STRING_qualifierTag s_PROPERTY s_FIELD t_FIELD_qualifierTag s_COMPRESSED s_ENCRYPTED t_ENCRYPTED_qualifierTag s_MESSAGE t_MESSAGE_qualifierTag s_EXTENSION s_VENDOR_DEFINED) :
    MetFree l (⟨"com/example/plainwire/plainwire/rfc806/Element", "qualified", "()Z"⟩ : MethodName) (head1 (Jvm.Cond.code (⟨"com/example/plainwire/plainwire/rfc806/Element", "qualified", "()Z"⟩ : MethodName) prog_101_method_9_code 1 (some .boolean) :: ws) ({ frames := 0, cells := 0, slots := 0, locals := 0 } : Room)) (fun a U => a = #[(.ref s_INTEGER)] ∧ Z.Warmed39 U.vm ∧ U.heap = h0) (fun _ _ _ _ _ => True) (fun _ U o U' => ∃ v L, o = .returned v ∧ QV (.int (0 : Int32)) h0 n0 v U'.heap L ∧ FrameEnd U o U' L ({ frames := 0, cells := 0, slots := 0, locals := 0 } : Room).cells ({ frames := 0, cells := 0, slots := 0, locals := 0 } : Room).slots) := by
  obtain ⟨S_NO_OP, F_NO_OP_code, E_NO_OP, F_NO_OP_qualifierTag, S_END_OF_CONSTRUCTOR, F_END_OF_CONSTRUCTOR_code, E_END_OF_CONSTRUCTOR, F_END_OF_CONSTRUCTOR_qualifierTag, S_ASCII_STRING, F_ASCII_STRING_code, E_ASCII_STRING, F_ASCII_STRING_qualifierTag, S_BOOLEAN, F_BOOLEAN_code, E_BOOLEAN, F_BOOLEAN_qualifierTag, S_UNIQUE_ID, F_UNIQUE_ID_code, E_UNIQUE_ID, F_UNIQUE_ID_qualifierTag, S_SEQUENCE, F_SEQUENCE_code, E_SEQUENCE, F_SEQUENCE_qualifierTag, S_SET, F_SET_code, E_SET, F_SET_qualifierTag, S_INTEGER, F_INTEGER_code, E_INTEGER, F_INTEGER_qualifierTag, S_PADDING, F_PADDING_code, E_PADDING, F_PADDING_qualifierTag, S_PROPERTY_LIST, F_PROPERTY_LIST_code, E_PROPERTY_LIST, F_PROPERTY_LIST_qualifierTag, S_DATE, F_DATE_code, E_DATE, F_DATE_qualifierTag, S_BIT_STRING, F_BIT_STRING_code, E_BIT_STRING, F_BIT_STRING_qualifierTag, S_PROPERTY, F_PROPERTY_code, E_PROPERTY, F_PROPERTY_qualifierTag, S_COMPRESSED, F_COMPRESSED_code, E_COMPRESSED, F_COMPRESSED_qualifierTag, S_ENCRYPTED, F_ENCRYPTED_code, E_ENCRYPTED, F_ENCRYPTED_qualifierTag, S_FIELD, F_FIELD_code, E_FIELD, F_FIELD_qualifierTag, S_MESSAGE, F_MESSAGE_code, E_MESSAGE, F_MESSAGE_qualifierTag, S_EXTENSION, F_EXTENSION_code, E_EXTENSION, F_EXTENSION_qualifierTag, S_VENDOR_DEFINED, F_VENDOR_DEFINED_code, E_VENDOR_DEFINED, F_VENDOR_DEFINED_qualifierTag⟩ := id K
  refine MetFree.of_bodySF (plainFor_of_name pn1) hisR ?_
  intro p e s m args below meth c s₁ Bd hml0 hP hK
  obtain ⟨rfl, hZ, hh⟩ := hP
  have hx := Bd.exec
  have hby := Bd.bytes
  have hml : c.maxLocals = 1 := hml0
  have hown : s.vm.findClass "com/example/plainwire/plainwire/rfc806/Element" = some m.cls := findClass_of_methodNamed Bd.named
  have X0 : Stand p l e ({ frames := 0, cells := 0, slots := 0, locals := 0 } : Room) s m #[(.ref s_INTEGER)] below meth c s₁ [] 0 0 := Stand.of_body Bd
  have e0 : s₁.heap = h0 := by rw [← hh, Bd.state]; rfl
  have N0 := Fr.nil n0
  have pre0 : ∀ t, Steps p.tables e below (s₁.setTop (mkF m 0 #[.val (.ref s_INTEGER)] [])) t → Steps p.tables e below (s₁.setTop (entryFrame m #[(.ref s_INTEGER)] 1)) t := fun t k => castTop (by first | (simp [entryFrame, mkF, argsToLocals, Value.category]; done) | rfl) k
  obtain ⟨T1, X1, e1, st1⟩ := getF X0 hx hZ hown (host := "") (Or.inl (hw _ (List.mem_of_getElem? (i := 13) rfl))) Via.refl e0 F_INTEGER_code (g := (mkF m 1 #[.val (.ref s_INTEGER)] [(.ref s_INTEGER)])) rfl rfl (hb hby d1_1)
  obtain ⟨fs, hr, hrun, hended, hW, hsame⟩ := X1.leave (v := some (.int (0 : Int32))) (fun h => by rw [Bd.returns] at h; cases h)
  refine ⟨_, _, pre0 _ ?_, hrun, hended, _, _, rfl, ?_, ⟨_, rfl⟩, hW, hsame.mono (by decide) (by decide)⟩
  · show Steps p.tables e below (s₁.setTop (mkF m 0 #[.val (.ref s_INTEGER)] [])) _
    refine XS.aloadN X0.here hx rfl (hb hby d1_0) rfl rfl ?_
    show Steps p.tables e below (s₁.setTop (mkF m 1 #[.val (.ref s_INTEGER)] [(.ref s_INTEGER)])) _
    refine st1 _ ?_
    show Steps p.tables e below (T1.setTop (mkF m 4 #[.val (.ref s_INTEGER)] [(.int (32 : Int32))])) _
    refine XS.bipush X1.here hx rfl (hb hby d1_4) ?_
    show Steps p.tables e below (T1.setTop (mkF m 6 #[.val (.ref s_INTEGER)] [(.int (64 : Int32)), (.int (32 : Int32))])) _
    refine XS.iand X1.here hx rfl (hb hby d1_6) rfl ?_
    show Steps p.tables e below (T1.setTop (mkF m 7 #[.val (.ref s_INTEGER)] [(.int ((32 : Int32) &&& (64 : Int32)))])) _
    rw [show ((32 : Int32) &&& (64 : Int32)) = (0 : Int32) from by decide +kernel]
    show Steps p.tables e below (T1.setTop (mkF m 7 #[.val (.ref s_INTEGER)] [(.int (0 : Int32))])) _
    refine XS.ifYes X1.here hx rfl (pc0 := 7) (pc' := 14) rfl (hb hby d1_7) rfl (by decide +kernel) (by decide) (by decide) ?_
    show Steps p.tables e below (T1.setTop (mkF m 14 #[.val (.ref s_INTEGER)] [])) _
    refine XS.iconst X1.here hx rfl (hb hby d1_14) ?_
    show Steps p.tables e below (T1.setTop (mkF m 15 #[.val (.ref s_INTEGER)] [(.int (0 : Int32))])) _
    exact retN X1 hx (t := .boolean) Bd.returns (by simp) (hb hby d1_15) hr
  · exact ⟨rfl, N0, e1⟩
set_option maxRecDepth 65536 in
set_option maxHeartbeats 40000000 in
theorem r30 (l : Launch) (Z : State) (a0 : Array Value) (hw : ∀ d ∈ tables_1, d.before a0 Z = true) (ws : List Jvm.Cond) (h0 : Heap) (n0 : Nat) (s_NO_OP : Addr) (s_END_OF_CONSTRUCTOR : Addr) (s_ASCII_STRING : Addr) (s_BOOLEAN : Addr) (s_UNIQUE_ID : Addr) (s_SEQUENCE : Addr) (s_SET : Addr) (s_INTEGER : Addr) (s_PADDING : Addr) (s_PROPERTY_LIST : Addr) (s_DATE : Addr) (s_BIT_STRING : Addr) (t_BIT_STRING_qualifierTag : Addr) (s_PROPERTY : Addr) (s_FIELD : Addr) (t_FIELD_qualifierTag : Addr) (s_COMPRESSED : Addr) (s_ENCRYPTED : Addr) (t_ENCRYPTED_qualifierTag : Addr) (s_MESSAGE : Addr) (t_MESSAGE_qualifierTag : Addr) (s_EXTENSION : Addr) (s_VENDOR_DEFINED : Addr) (K : Ctx Z h0 s_NO_OP s_END_OF_CONSTRUCTOR s_ASCII_STRING s_BOOLEAN s_UNIQUE_ID s_SEQUENCE s_SET s_INTEGER s_PADDING s_PROPERTY_LIST s_DATE s_BIT_STRING t_BIT_STRING_qualifierTag s_PROPERTY s_FIELD t_FIELD_qualifierTag s_COMPRESSED s_ENCRYPTED t_ENCRYPTED_qualifierTag s_MESSAGE t_MESSAGE_qualifierTag s_EXTENSION s_VENDOR_DEFINED) :
    MetFree l (⟨"com/example/plainwire/plainwire/rfc806/Element", "qualifierTag", "()Ljava/lang/String;"⟩ : MethodName) (head1 (Jvm.Cond.code (⟨"com/example/plainwire/plainwire/rfc806/Element", "qualifierTag", "()Ljava/lang/String;"⟩ : MethodName) prog_101_method_10_code 1 (some (.object "java/lang/String")) :: ws) ({ frames := 0, cells := 0, slots := 0, locals := 0 } : Room)) (fun a U => a = #[(.ref s_INTEGER)] ∧ Z.Warmed39 U.vm ∧ U.heap = h0) (fun _ _ _ _ _ => True) (fun _ U o U' => ∃ v L, o = .returned v ∧ QV .null h0 n0 v U'.heap L ∧ FrameEnd U o U' L ({ frames := 0, cells := 0, slots := 0, locals := 0 } : Room).cells ({ frames := 0, cells := 0, slots := 0, locals := 0 } : Room).slots) := by
  obtain ⟨S_NO_OP, F_NO_OP_code, E_NO_OP, F_NO_OP_qualifierTag, S_END_OF_CONSTRUCTOR, F_END_OF_CONSTRUCTOR_code, E_END_OF_CONSTRUCTOR, F_END_OF_CONSTRUCTOR_qualifierTag, S_ASCII_STRING, F_ASCII_STRING_code, E_ASCII_STRING, F_ASCII_STRING_qualifierTag, S_BOOLEAN, F_BOOLEAN_code, E_BOOLEAN, F_BOOLEAN_qualifierTag, S_UNIQUE_ID, F_UNIQUE_ID_code, E_UNIQUE_ID, F_UNIQUE_ID_qualifierTag, S_SEQUENCE, F_SEQUENCE_code, E_SEQUENCE, F_SEQUENCE_qualifierTag, S_SET, F_SET_code, E_SET, F_SET_qualifierTag, S_INTEGER, F_INTEGER_code, E_INTEGER, F_INTEGER_qualifierTag, S_PADDING, F_PADDING_code, E_PADDING, F_PADDING_qualifierTag, S_PROPERTY_LIST, F_PROPERTY_LIST_code, E_PROPERTY_LIST, F_PROPERTY_LIST_qualifierTag, S_DATE, F_DATE_code, E_DATE, F_DATE_qualifierTag, S_BIT_STRING, F_BIT_STRING_code, E_BIT_STRING, F_BIT_STRING_qualifierTag, S_PROPERTY, F_PROPERTY_code, E_PROPERTY, F_PROPERTY_qualifierTag, S_COMPRESSED, F_COMPRESSED_code, E_COMPRESSED, F_COMPRESSED_qualifierTag, S_ENCRYPTED, F_ENCRYPTED_code, E_ENCRYPTED, F_ENCRYPTED_qualifierTag, S_FIELD, F_FIELD_code, E_FIELD, F_FIELD_qualifierTag, S_MESSAGE, F_MESSAGE_code, E_MESSAGE, F_MESSAGE_qualifierTag, S_EXTENSION, F_EXTENSION_code, E_EXTENSION, F_EXTENSION_qualifierTag, S_VENDOR_DEFINED, F_VENDOR_DEFINED_code, E_VENDOR_DEFINED, F_VENDOR_DEFINED_qualifierTag⟩ := id K
  refine MetFree.of_bodySF (plainFor_of_name pn2) hisR ?_
  intro p e s m args below meth c s₁ Bd hml0 hP hK
  obtain ⟨rfl, hZ, hh⟩ := hP
  have hx := Bd.exec
  have hby := Bd.bytes
  have hml : c.maxLocals = 1 := hml0
  have hown : s.vm.findClass "com/example/plainwire/plainwire/rfc806/Element" = some m.cls := findClass_of_methodNamed Bd.named
  have X0 : Stand p l e ({ frames := 0, cells := 0, slots := 0, locals := 0 } : Room) s m #[(.ref s_INTEGER)] below meth c s₁ [] 0 0 := Stand.of_body Bd
  have e0 : s₁.heap = h0 := by rw [← hh, Bd.state]; rfl
  have N0 := Fr.nil n0
  have pre0 : ∀ t, Steps p.tables e below (s₁.setTop (mkF m 0 #[.val (.ref s_INTEGER)] [])) t → Steps p.tables e below (s₁.setTop (entryFrame m #[(.ref s_INTEGER)] 1)) t := fun t k => castTop (by first | (simp [entryFrame, mkF, argsToLocals, Value.category]; done) | rfl) k
  obtain ⟨T1, X1, e1, st1⟩ := getF X0 hx hZ hown (host := "") (Or.inl (hw _ (List.mem_of_getElem? (i := 20) rfl))) Via.refl e0 F_INTEGER_qualifierTag (g := (mkF m 1 #[.val (.ref s_INTEGER)] [(.ref s_INTEGER)])) rfl rfl (hb hby d2_1)
  obtain ⟨fs, hr, hrun, hended, hW, hsame⟩ := X1.leave (v := some .null) (fun h => by rw [Bd.returns] at h; cases h)
  refine ⟨_, _, pre0 _ ?_, hrun, hended, _, _, rfl, ?_, ⟨_, rfl⟩, hW, hsame.mono (by decide) (by decide)⟩
  · show Steps p.tables e below (s₁.setTop (mkF m 0 #[.val (.ref s_INTEGER)] [])) _
    refine XS.aloadN X0.here hx rfl (hb hby d2_0) rfl rfl ?_
    show Steps p.tables e below (s₁.setTop (mkF m 1 #[.val (.ref s_INTEGER)] [(.ref s_INTEGER)])) _
    refine st1 _ ?_
    show Steps p.tables e below (T1.setTop (mkF m 4 #[.val (.ref s_INTEGER)] [.null])) _
    exact retOut X1 hx (i := .areturn) Bd.returns rfl (Or.inr (Or.inr (Or.inr (Or.inr ⟨rfl, rfl, rfl⟩)))) (hb hby d2_4) hr
  · exact ⟨rfl, N0, e1⟩
set_option maxRecDepth 65536 in
set_option maxHeartbeats 40000000 in
theorem law_k7 (l : Launch) (Z : State) (a0 : Array Value) (hw : ∀ d ∈ tables_1, d.before a0 Z = true) (ws : List Jvm.Cond) (h0 : Heap) (n0 : Nat) (s_NO_OP : Addr) (s_END_OF_CONSTRUCTOR : Addr) (s_ASCII_STRING : Addr) (s_BOOLEAN : Addr) (s_UNIQUE_ID : Addr) (s_SEQUENCE : Addr) (s_SET : Addr) (s_INTEGER : Addr) (s_PADDING : Addr) (s_PROPERTY_LIST : Addr) (s_DATE : Addr) (s_BIT_STRING : Addr) (t_BIT_STRING_qualifierTag : Addr) (s_PROPERTY : Addr) (s_FIELD : Addr) (t_FIELD_qualifierTag : Addr) (s_COMPRESSED : Addr) (s_ENCRYPTED : Addr) (t_ENCRYPTED_qualifierTag : Addr) (s_MESSAGE : Addr) (t_MESSAGE_qualifierTag : Addr) (s_EXTENSION : Addr) (s_VENDOR_DEFINED : Addr) (K : Ctx Z h0 s_NO_OP s_END_OF_CONSTRUCTOR s_ASCII_STRING s_BOOLEAN s_UNIQUE_ID s_SEQUENCE s_SET s_INTEGER s_PADDING s_PROPERTY_LIST s_DATE s_BIT_STRING t_BIT_STRING_qualifierTag s_PROPERTY s_FIELD t_FIELD_qualifierTag s_COMPRESSED s_ENCRYPTED t_ENCRYPTED_qualifierTag s_MESSAGE t_MESSAGE_qualifierTag s_EXTENSION s_VENDOR_DEFINED) (p0 : Int32) (hp0 : ((p0 &&& (2147483647 : Int32)) % (19 : Int32)) = (7 : Int32)) :
    MetFree l x (head1 (Jvm.Cond.code x code maxLocals ret :: ws) room_1) (fun a U => a = #[(.int p0)] ∧ Z.Warmed39 U.vm ∧ U.heap = h0) (fun _ _ _ _ _ => True) (fun _ U o U' => ∃ v L, o = .returned v ∧ QV (.int (1 : Int32)) h0 n0 v U'.heap L ∧ FrameEnd U o U' L room_1.cells room_1.slots) := by
  obtain ⟨S_NO_OP, F_NO_OP_code, E_NO_OP, F_NO_OP_qualifierTag, S_END_OF_CONSTRUCTOR, F_END_OF_CONSTRUCTOR_code, E_END_OF_CONSTRUCTOR, F_END_OF_CONSTRUCTOR_qualifierTag, S_ASCII_STRING, F_ASCII_STRING_code, E_ASCII_STRING, F_ASCII_STRING_qualifierTag, S_BOOLEAN, F_BOOLEAN_code, E_BOOLEAN, F_BOOLEAN_qualifierTag, S_UNIQUE_ID, F_UNIQUE_ID_code, E_UNIQUE_ID, F_UNIQUE_ID_qualifierTag, S_SEQUENCE, F_SEQUENCE_code, E_SEQUENCE, F_SEQUENCE_qualifierTag, S_SET, F_SET_code, E_SET, F_SET_qualifierTag, S_INTEGER, F_INTEGER_code, E_INTEGER, F_INTEGER_qualifierTag, S_PADDING, F_PADDING_code, E_PADDING, F_PADDING_qualifierTag, S_PROPERTY_LIST, F_PROPERTY_LIST_code, E_PROPERTY_LIST, F_PROPERTY_LIST_qualifierTag, S_DATE, F_DATE_code, E_DATE, F_DATE_qualifierTag, S_BIT_STRING, F_BIT_STRING_code, E_BIT_STRING, F_BIT_STRING_qualifierTag, S_PROPERTY, F_PROPERTY_code, E_PROPERTY, F_PROPERTY_qualifierTag, S_COMPRESSED, F_COMPRESSED_code, E_COMPRESSED, F_COMPRESSED_qualifierTag, S_ENCRYPTED, F_ENCRYPTED_code, E_ENCRYPTED, F_ENCRYPTED_qualifierTag, S_FIELD, F_FIELD_code, E_FIELD, F_FIELD_qualifierTag, S_MESSAGE, F_MESSAGE_code, E_MESSAGE, F_MESSAGE_qualifierTag, S_EXTENSION, F_EXTENSION_code, E_EXTENSION, F_EXTENSION_qualifierTag, S_VENDOR_DEFINED, F_VENDOR_DEFINED_code, E_VENDOR_DEFINED, F_VENDOR_DEFINED_qualifierTag⟩ := id K
  refine MetFree.of_bodySF (plainFor_of_name pn3) hisR ?_
  intro p e s m args below meth c s₁ Bd hml0 hP hK
  obtain ⟨rfl, hZ, hh⟩ := hP
  have hx := Bd.exec
  have hby := Bd.bytes
  have hml : c.maxLocals = 6 := hml0
  have hown : s.vm.findClass "com/example/plainwire/plainwire/rfc806/ElementQualifiedPinLaw" = some m.cls := findClass_of_methodNamed Bd.named
  have X0 : Stand p l e room_1 s m #[(.int p0)] below meth c s₁ [] 0 0 := Stand.of_body Bd
  have e0 : s₁.heap = h0 := by rw [← hh, Bd.state]; rfl
  have N0 := Fr.nil n0
  have pre0 : ∀ t, Steps p.tables e below (s₁.setTop (mkF m 0 #[.val (.int p0), .unset, .unset, .unset, .unset, .unset] [])) t → Steps p.tables e below (s₁.setTop (entryFrame m #[(.int p0)] maxLocals)) t := fun t k => castTop (by first | (simp [entryFrame, mkF, argsToLocals, Value.category, maxLocals]; done) | rfl) k
  obtain ⟨_, _, ⟨T1, L1, k1, n1⟩, -, X1, ⟨Lc1, hQ1, l1, y1, z1⟩, st1⟩ := Jvm.LawKit.callS X0 hx (y := (⟨"com/example/plainwire/plainwire/rfc806/ElementQualifiedPinLaw", "pick", "(I)Lcom/example/plainwire/plainwire/rfc806/Element;"⟩ : MethodName)) hown (mvT hZ (hw _ (List.mem_of_getElem? (i := 1) rfl))) (mvT hZ (hw _ (List.mem_of_getElem? (i := 2) rfl))) (mvT hZ (hw _ (List.mem_of_getElem? (i := 3) rfl))) (mvT hZ (hw _ (List.mem_of_getElem? (i := 4) rfl))) (by decide) (backOf (W := 0) (r28 l Z a0 hw [] h0 n0 s_NO_OP s_END_OF_CONSTRUCTOR s_ASCII_STRING s_BOOLEAN s_UNIQUE_ID s_SEQUENCE s_SET s_INTEGER s_PADDING s_PROPERTY_LIST s_DATE s_BIT_STRING t_BIT_STRING_qualifierTag s_PROPERTY s_FIELD t_FIELD_qualifierTag s_COMPRESSED s_ENCRYPTED t_ENCRYPTED_qualifierTag s_MESSAGE t_MESSAGE_qualifierTag s_EXTENSION s_VENDOR_DEFINED K) hZ (hw _ (List.mem_of_getElem? (i := 4) rfl)) (hw _ (List.mem_of_getElem? (i := 3) rfl)) (by decide) (by decide)) (g := (mkF m 9 #[.val (.int p0), .val (.int (7 : Int32)), .unset, .unset, .unset, .unset] [(.int (7 : Int32))])) rfl (by rw [hml]; rfl) (argsL := [(.int (7 : Int32))]) (rest := []) (lenOf pd0 rfl) rfl (by show 2 * 0 + _ ≤ _; exact Nat.le_of_eq rfl) (hb hby at_9) (fun _ _ => ⟨rfl, e0, (by decide : 0 + 0 ≤ _), (by decide : 0 + 0 ≤ _)⟩)
  dsimp only [Pt.U, Pt.locs, Pt.cells, Pt.slots] at X1 l1 y1 z1 st1 hQ1
  subst l1 y1 z1
  obtain ⟨rfl, N1q, e1⟩ := hQ1
  have N1 := Fr.app N0 N1q
  obtain ⟨cq2, kq2, q2a, q2b, q2c⟩ := isOf hZ e1 E_INTEGER
  obtain ⟨_, _, ⟨T2, L2, k2, n2⟩, -, X2, ⟨Lc2, hQ2, l2, y2, z2⟩, st2⟩ := X1.virtualBack hx (y := (⟨"com/example/plainwire/plainwire/rfc806/Element", "qualified", "()Z"⟩ : MethodName)) (z := (⟨"com/example/plainwire/plainwire/rfc806/Element", "qualified", "()Z"⟩ : MethodName)) hown (mvT hZ (hw _ (List.mem_of_getElem? (i := 8) rfl))) (mvT hZ (hw _ (List.mem_of_getElem? (i := 9) rfl))) (notFace_of_selects (args := #[]) (mvT hZ (hw _ (List.mem_of_getElem? (i := 11) rfl)))) (mvT hZ (hw _ (List.mem_of_getElem? (i := 11) rfl))) (mvT hZ (hw _ (List.mem_of_getElem? (i := 10) rfl))) (by decide) (backOf (W := 0) (r29 l Z a0 hw [] h0 n0 s_NO_OP s_END_OF_CONSTRUCTOR s_ASCII_STRING s_BOOLEAN s_UNIQUE_ID s_SEQUENCE s_SET s_INTEGER s_PADDING s_PROPERTY_LIST s_DATE s_BIT_STRING t_BIT_STRING_qualifierTag s_PROPERTY s_FIELD t_FIELD_qualifierTag s_COMPRESSED s_ENCRYPTED t_ENCRYPTED_qualifierTag s_MESSAGE t_MESSAGE_qualifierTag s_EXTENSION s_VENDOR_DEFINED K) hZ (hw _ (List.mem_of_getElem? (i := 12) rfl)) (hw _ (List.mem_of_getElem? (i := 6) rfl)) (by decide) (by decide)) q2a q2c (g := (mkF m 26 #[.val (.int p0), .val (.int (7 : Int32)), .val (.ref s_INTEGER), .val (.int (0 : Int32)), .unset, .unset] [(.ref s_INTEGER)])) rfl (by rw [hml]; rfl) (Steps.refl _) (argsL := []) (rest := []) (lenOf pd1 rfl) rfl (by show 2 * 0 + _ ≤ _; exact Nat.le_of_eq rfl) (hb hby at_26) (fun _ _ => ⟨rfl, e1, (by decide : 0 + 0 ≤ _), (by decide : 0 + 0 ≤ _)⟩)
  dsimp only [Pt.U, Pt.locs, Pt.cells, Pt.slots] at X2 l2 y2 z2 st2 hQ2
  subst l2 y2 z2
  obtain ⟨rfl, N2q, e2⟩ := hQ2
  have N2 := Fr.app N1 N2q
  obtain ⟨cq3, kq3, q3a, q3b, q3c⟩ := isOf hZ e2 E_INTEGER
  obtain ⟨_, _, ⟨T3, L3, k3, n3⟩, -, X3, ⟨Lc3, hQ3, l3, y3, z3⟩, st3⟩ := X2.virtualBack hx (y := (⟨"com/example/plainwire/plainwire/rfc806/Element", "qualifierTag", "()Ljava/lang/String;"⟩ : MethodName)) (z := (⟨"com/example/plainwire/plainwire/rfc806/Element", "qualifierTag", "()Ljava/lang/String;"⟩ : MethodName)) hown (mvT hZ (hw _ (List.mem_of_getElem? (i := 15) rfl))) (mvT hZ (hw _ (List.mem_of_getElem? (i := 16) rfl))) (notFace_of_selects (args := #[]) (mvT hZ (hw _ (List.mem_of_getElem? (i := 18) rfl)))) (mvT hZ (hw _ (List.mem_of_getElem? (i := 18) rfl))) (mvT hZ (hw _ (List.mem_of_getElem? (i := 17) rfl))) (by decide) (backOf (W := 0) (r30 l Z a0 hw [] h0 n0 s_NO_OP s_END_OF_CONSTRUCTOR s_ASCII_STRING s_BOOLEAN s_UNIQUE_ID s_SEQUENCE s_SET s_INTEGER s_PADDING s_PROPERTY_LIST s_DATE s_BIT_STRING t_BIT_STRING_qualifierTag s_PROPERTY s_FIELD t_FIELD_qualifierTag s_COMPRESSED s_ENCRYPTED t_ENCRYPTED_qualifierTag s_MESSAGE t_MESSAGE_qualifierTag s_EXTENSION s_VENDOR_DEFINED K) hZ (hw _ (List.mem_of_getElem? (i := 19) rfl)) (hw _ (List.mem_of_getElem? (i := 6) rfl)) (by decide) (by decide)) q3a q3c (g := (mkF m 32 #[.val (.int p0), .val (.int (7 : Int32)), .val (.ref s_INTEGER), .val (.int (0 : Int32)), .val (.int (0 : Int32)), .unset] [(.ref s_INTEGER)])) rfl (by rw [hml]; rfl) (Steps.refl _) (argsL := []) (rest := []) (lenOf pd2 rfl) rfl (by show 2 * 0 + _ ≤ _; exact Nat.le_of_eq rfl) (hb hby at_32) (fun _ _ => ⟨rfl, e2, (by decide : 0 + 0 ≤ _), (by decide : 0 + 0 ≤ _)⟩)
  dsimp only [Pt.U, Pt.locs, Pt.cells, Pt.slots] at X3 l3 y3 z3 st3 hQ3
  subst l3 y3 z3
  obtain ⟨rfl, N3q, e3⟩ := hQ3
  have N3 := Fr.app N2 N3q
  obtain ⟨fs, hr, hrun, hended, hW, hsame⟩ := X3.leave (v := some (.int (1 : Int32))) (fun h => by rw [Bd.returns] at h; cases h)
  refine ⟨_, _, pre0 _ ?_, hrun, hended, _, _, rfl, ?_, ⟨_, rfl⟩, hW, hsame.mono (by decide) (by decide)⟩
  · show Steps p.tables e below (s₁.setTop (mkF m 0 #[.val (.int p0), .unset, .unset, .unset, .unset, .unset] [])) _
    refine XS.iloadN X0.here hx rfl (hb hby at_0) rfl ?_
    show Steps p.tables e below (s₁.setTop (mkF m 1 #[.val (.int p0), .unset, .unset, .unset, .unset, .unset] [(.int p0)])) _
    refine X0.ldcInt hx hown (mvT hZ (hw _ (List.mem_of_getElem? (i := 0) rfl))) (g := (mkF m 1 #[.val (.int p0), .unset, .unset, .unset, .unset, .unset] [(.int p0)])) rfl (hb hby at_1) _ ?_
    show Steps p.tables e below (s₁.setTop (mkF m 3 #[.val (.int p0), .unset, .unset, .unset, .unset, .unset] [(.int (2147483647 : Int32)), (.int p0)])) _
    refine XS.iand X0.here hx rfl (hb hby at_3) rfl ?_
    show Steps p.tables e below (s₁.setTop (mkF m 4 #[.val (.int p0), .unset, .unset, .unset, .unset, .unset] [(.int (p0 &&& (2147483647 : Int32)))])) _
    refine XS.bipush X0.here hx rfl (hb hby at_4) ?_
    show Steps p.tables e below (s₁.setTop (mkF m 6 #[.val (.int p0), .unset, .unset, .unset, .unset, .unset] [(.int (19 : Int32)), (.int (p0 &&& (2147483647 : Int32)))])) _
    refine Jvm.RoadKit.iremM X0 hx rfl (hb hby at_6) rfl (by decide) ?_
    show Steps p.tables e below (s₁.setTop (mkF m 7 #[.val (.int p0), .unset, .unset, .unset, .unset, .unset] [(.int ((p0 &&& (2147483647 : Int32)) % (19 : Int32)))])) _
    rw [hp0]
    show Steps p.tables e below (s₁.setTop (mkF m 7 #[.val (.int p0), .unset, .unset, .unset, .unset, .unset] [(.int (7 : Int32))])) _
    refine XS.istoreN X0.here hx rfl (hb hby at_7) rfl (l' := #[.val (.int p0), .val (.int (7 : Int32)), .unset, .unset, .unset, .unset]) rfl ?_
    show Steps p.tables e below (s₁.setTop (mkF m 8 #[.val (.int p0), .val (.int (7 : Int32)), .unset, .unset, .unset, .unset] [])) _
    refine XS.iloadN X0.here hx rfl (hb hby at_8) rfl ?_
    show Steps p.tables e below (s₁.setTop (mkF m 9 #[.val (.int p0), .val (.int (7 : Int32)), .unset, .unset, .unset, .unset] [(.int (7 : Int32))])) _
    refine st1 _ ?_
    show Steps p.tables e below (T1.setTop (mkF m 12 #[.val (.int p0), .val (.int (7 : Int32)), .unset, .unset, .unset, .unset] [(.ref s_INTEGER)])) _
    refine XS.astoreN X1.here hx rfl (hb hby at_12) rfl rfl (l' := #[.val (.int p0), .val (.int (7 : Int32)), .val (.ref s_INTEGER), .unset, .unset, .unset]) rfl ?_
    show Steps p.tables e below (T1.setTop (mkF m 13 #[.val (.int p0), .val (.int (7 : Int32)), .val (.ref s_INTEGER), .unset, .unset, .unset] [])) _
    refine XS.iloadN X1.here hx rfl (hb hby at_13) rfl ?_
    show Steps p.tables e below (T1.setTop (mkF m 14 #[.val (.int p0), .val (.int (7 : Int32)), .val (.ref s_INTEGER), .unset, .unset, .unset] [(.int (7 : Int32))])) _
    refine XS.bipush X1.here hx rfl (hb hby at_14) ?_
    show Steps p.tables e below (T1.setTop (mkF m 16 #[.val (.int p0), .val (.int (7 : Int32)), .val (.ref s_INTEGER), .unset, .unset, .unset] [(.int (11 : Int32)), (.int (7 : Int32))])) _
    refine XS.icmpYes X1.here hx rfl (pc0 := 16) (pc' := 23) rfl (hb hby at_16) rfl (by decide +kernel) (by decide) (by decide) ?_
    show Steps p.tables e below (T1.setTop (mkF m 23 #[.val (.int p0), .val (.int (7 : Int32)), .val (.ref s_INTEGER), .unset, .unset, .unset] [])) _
    refine XS.iconst X1.here hx rfl (hb hby at_23) ?_
    show Steps p.tables e below (T1.setTop (mkF m 24 #[.val (.int p0), .val (.int (7 : Int32)), .val (.ref s_INTEGER), .unset, .unset, .unset] [(.int (0 : Int32))])) _
    refine XS.istoreN X1.here hx rfl (hb hby at_24) rfl (l' := #[.val (.int p0), .val (.int (7 : Int32)), .val (.ref s_INTEGER), .val (.int (0 : Int32)), .unset, .unset]) rfl ?_
    show Steps p.tables e below (T1.setTop (mkF m 25 #[.val (.int p0), .val (.int (7 : Int32)), .val (.ref s_INTEGER), .val (.int (0 : Int32)), .unset, .unset] [])) _
    refine XS.aloadN X1.here hx rfl (hb hby at_25) rfl rfl ?_
    show Steps p.tables e below (T1.setTop (mkF m 26 #[.val (.int p0), .val (.int (7 : Int32)), .val (.ref s_INTEGER), .val (.int (0 : Int32)), .unset, .unset] [(.ref s_INTEGER)])) _
    refine st2.trans ?_
    show Steps p.tables e below (T2.setTop (mkF m 29 #[.val (.int p0), .val (.int (7 : Int32)), .val (.ref s_INTEGER), .val (.int (0 : Int32)), .unset, .unset] [(.int (0 : Int32))])) _
    refine XS.istore X2.here hx rfl (hb hby at_29) rfl (l' := #[.val (.int p0), .val (.int (7 : Int32)), .val (.ref s_INTEGER), .val (.int (0 : Int32)), .val (.int (0 : Int32)), .unset]) rfl ?_
    show Steps p.tables e below (T2.setTop (mkF m 31 #[.val (.int p0), .val (.int (7 : Int32)), .val (.ref s_INTEGER), .val (.int (0 : Int32)), .val (.int (0 : Int32)), .unset] [])) _
    refine XS.aloadN X2.here hx rfl (hb hby at_31) rfl rfl ?_
    show Steps p.tables e below (T2.setTop (mkF m 32 #[.val (.int p0), .val (.int (7 : Int32)), .val (.ref s_INTEGER), .val (.int (0 : Int32)), .val (.int (0 : Int32)), .unset] [(.ref s_INTEGER)])) _
    refine st3.trans ?_
    show Steps p.tables e below (T3.setTop (mkF m 35 #[.val (.int p0), .val (.int (7 : Int32)), .val (.ref s_INTEGER), .val (.int (0 : Int32)), .val (.int (0 : Int32)), .unset] [.null])) _
    refine XS.ifnullYes X3.here hx rfl (pc0 := 35) (pc' := 42) rfl (hb hby at_35) rfl (by decide) (by decide) ?_
    show Steps p.tables e below (T3.setTop (mkF m 42 #[.val (.int p0), .val (.int (7 : Int32)), .val (.ref s_INTEGER), .val (.int (0 : Int32)), .val (.int (0 : Int32)), .unset] [])) _
    refine XS.iconst X3.here hx rfl (hb hby at_42) ?_
    show Steps p.tables e below (T3.setTop (mkF m 43 #[.val (.int p0), .val (.int (7 : Int32)), .val (.ref s_INTEGER), .val (.int (0 : Int32)), .val (.int (0 : Int32)), .unset] [(.int (0 : Int32))])) _
    refine XS.istore X3.here hx rfl (hb hby at_43) rfl (l' := #[.val (.int p0), .val (.int (7 : Int32)), .val (.ref s_INTEGER), .val (.int (0 : Int32)), .val (.int (0 : Int32)), .val (.int (0 : Int32))]) rfl ?_
    show Steps p.tables e below (T3.setTop (mkF m 45 #[.val (.int p0), .val (.int (7 : Int32)), .val (.ref s_INTEGER), .val (.int (0 : Int32)), .val (.int (0 : Int32)), .val (.int (0 : Int32))] [])) _
    refine XS.iload X3.here hx rfl (hb hby at_45) rfl ?_
    show Steps p.tables e below (T3.setTop (mkF m 47 #[.val (.int p0), .val (.int (7 : Int32)), .val (.ref s_INTEGER), .val (.int (0 : Int32)), .val (.int (0 : Int32)), .val (.int (0 : Int32))] [(.int (0 : Int32))])) _
    refine XS.iloadN X3.here hx rfl (hb hby at_47) rfl ?_
    show Steps p.tables e below (T3.setTop (mkF m 48 #[.val (.int p0), .val (.int (7 : Int32)), .val (.ref s_INTEGER), .val (.int (0 : Int32)), .val (.int (0 : Int32)), .val (.int (0 : Int32))] [(.int (0 : Int32)), (.int (0 : Int32))])) _
    refine XS.icmpNo X3.here hx rfl (hb hby at_48) rfl (by decide +kernel) ?_
    show Steps p.tables e below (T3.setTop (mkF m 51 #[.val (.int p0), .val (.int (7 : Int32)), .val (.ref s_INTEGER), .val (.int (0 : Int32)), .val (.int (0 : Int32)), .val (.int (0 : Int32))] [])) _
    refine XS.iload X3.here hx rfl (hb hby at_51) rfl ?_
    show Steps p.tables e below (T3.setTop (mkF m 53 #[.val (.int p0), .val (.int (7 : Int32)), .val (.ref s_INTEGER), .val (.int (0 : Int32)), .val (.int (0 : Int32)), .val (.int (0 : Int32))] [(.int (0 : Int32))])) _
    refine XS.iload X3.here hx rfl (hb hby at_53) rfl ?_
    show Steps p.tables e below (T3.setTop (mkF m 55 #[.val (.int p0), .val (.int (7 : Int32)), .val (.ref s_INTEGER), .val (.int (0 : Int32)), .val (.int (0 : Int32)), .val (.int (0 : Int32))] [(.int (0 : Int32)), (.int (0 : Int32))])) _
    refine XS.icmpNo X3.here hx rfl (hb hby at_55) rfl (by decide +kernel) ?_
    show Steps p.tables e below (T3.setTop (mkF m 58 #[.val (.int p0), .val (.int (7 : Int32)), .val (.ref s_INTEGER), .val (.int (0 : Int32)), .val (.int (0 : Int32)), .val (.int (0 : Int32))] [])) _
    refine XS.iconst X3.here hx rfl (hb hby at_58) ?_
    show Steps p.tables e below (T3.setTop (mkF m 59 #[.val (.int p0), .val (.int (7 : Int32)), .val (.ref s_INTEGER), .val (.int (0 : Int32)), .val (.int (0 : Int32)), .val (.int (0 : Int32))] [(.int (1 : Int32))])) _
    refine XS.goto X3.here hx rfl (pc0 := 59) (pc' := 63) rfl (hb hby at_59) (by decide) (by decide) ?_
    show Steps p.tables e below (T3.setTop (mkF m 63 #[.val (.int p0), .val (.int (7 : Int32)), .val (.ref s_INTEGER), .val (.int (0 : Int32)), .val (.int (0 : Int32)), .val (.int (0 : Int32))] [(.int (1 : Int32))])) _
    exact retN X3 hx (t := .boolean) Bd.returns (by simp) (hb hby at_63) hr
  · exact ⟨rfl, N3, e3⟩
set_option maxRecDepth 65536 in
set_option maxHeartbeats 40000000 in
theorem r32 (l : Launch) (Z : State) (a0 : Array Value) (hw : ∀ d ∈ tables_1, d.before a0 Z = true) (ws : List Jvm.Cond) (h0 : Heap) (n0 : Nat) (s_NO_OP : Addr) (s_END_OF_CONSTRUCTOR : Addr) (s_ASCII_STRING : Addr) (s_BOOLEAN : Addr) (s_UNIQUE_ID : Addr) (s_SEQUENCE : Addr) (s_SET : Addr) (s_INTEGER : Addr) (s_PADDING : Addr) (s_PROPERTY_LIST : Addr) (s_DATE : Addr) (s_BIT_STRING : Addr) (t_BIT_STRING_qualifierTag : Addr) (s_PROPERTY : Addr) (s_FIELD : Addr) (t_FIELD_qualifierTag : Addr) (s_COMPRESSED : Addr) (s_ENCRYPTED : Addr) (t_ENCRYPTED_qualifierTag : Addr) (s_MESSAGE : Addr) (t_MESSAGE_qualifierTag : Addr) (s_EXTENSION : Addr) (s_VENDOR_DEFINED : Addr) (K : Ctx Z h0 s_NO_OP s_END_OF_CONSTRUCTOR s_ASCII_STRING s_BOOLEAN s_UNIQUE_ID s_SEQUENCE s_SET s_INTEGER s_PADDING s_PROPERTY_LIST s_DATE s_BIT_STRING t_BIT_STRING_qualifierTag s_PROPERTY s_FIELD t_FIELD_qualifierTag s_COMPRESSED s_ENCRYPTED t_ENCRYPTED_qualifierTag s_MESSAGE t_MESSAGE_qualifierTag s_EXTENSION s_VENDOR_DEFINED) :
    MetFree l (⟨"com/example/plainwire/plainwire/rfc806/ElementQualifiedPinLaw", "pick", "(I)Lcom/example/plainwire/plainwire/rfc806/Element;"⟩ : MethodName) (head1 (Jvm.Cond.code (⟨"com/example/plainwire/plainwire/rfc806/ElementQualifiedPinLaw", "pick", "(I)Lcom/example/plainwire/plainwire/rfc806/Element;"⟩ : MethodName) method_2_code 1 (some (.object "com/example/plainwire/plainwire/rfc806/Element")) :: ws) ({ frames := 0, cells := 0, slots := 0, locals := 0 } : Room)) (fun a U => a = #[(.int (8 : Int32))] ∧ Z.Warmed39 U.vm ∧ U.heap = h0) (fun _ _ _ _ _ => True) (fun _ U o U' => ∃ v L, o = .returned v ∧ QV (.ref s_PADDING) h0 n0 v U'.heap L ∧ FrameEnd U o U' L ({ frames := 0, cells := 0, slots := 0, locals := 0 } : Room).cells ({ frames := 0, cells := 0, slots := 0, locals := 0 } : Room).slots) := by
  obtain ⟨S_NO_OP, F_NO_OP_code, E_NO_OP, F_NO_OP_qualifierTag, S_END_OF_CONSTRUCTOR, F_END_OF_CONSTRUCTOR_code, E_END_OF_CONSTRUCTOR, F_END_OF_CONSTRUCTOR_qualifierTag, S_ASCII_STRING, F_ASCII_STRING_code, E_ASCII_STRING, F_ASCII_STRING_qualifierTag, S_BOOLEAN, F_BOOLEAN_code, E_BOOLEAN, F_BOOLEAN_qualifierTag, S_UNIQUE_ID, F_UNIQUE_ID_code, E_UNIQUE_ID, F_UNIQUE_ID_qualifierTag, S_SEQUENCE, F_SEQUENCE_code, E_SEQUENCE, F_SEQUENCE_qualifierTag, S_SET, F_SET_code, E_SET, F_SET_qualifierTag, S_INTEGER, F_INTEGER_code, E_INTEGER, F_INTEGER_qualifierTag, S_PADDING, F_PADDING_code, E_PADDING, F_PADDING_qualifierTag, S_PROPERTY_LIST, F_PROPERTY_LIST_code, E_PROPERTY_LIST, F_PROPERTY_LIST_qualifierTag, S_DATE, F_DATE_code, E_DATE, F_DATE_qualifierTag, S_BIT_STRING, F_BIT_STRING_code, E_BIT_STRING, F_BIT_STRING_qualifierTag, S_PROPERTY, F_PROPERTY_code, E_PROPERTY, F_PROPERTY_qualifierTag, S_COMPRESSED, F_COMPRESSED_code, E_COMPRESSED, F_COMPRESSED_qualifierTag, S_ENCRYPTED, F_ENCRYPTED_code, E_ENCRYPTED, F_ENCRYPTED_qualifierTag, S_FIELD, F_FIELD_code, E_FIELD, F_FIELD_qualifierTag, S_MESSAGE, F_MESSAGE_code, E_MESSAGE, F_MESSAGE_qualifierTag, S_EXTENSION, F_EXTENSION_code, E_EXTENSION, F_EXTENSION_qualifierTag, S_VENDOR_DEFINED, F_VENDOR_DEFINED_code, E_VENDOR_DEFINED, F_VENDOR_DEFINED_qualifierTag⟩ := id K
  refine MetFree.of_bodySF (plainFor_of_name pn0) hisR ?_
  intro p e s m args below meth c s₁ Bd hml0 hP hK
  obtain ⟨rfl, hZ, hh⟩ := hP
  have hx := Bd.exec
  have hby := Bd.bytes
  have hml : c.maxLocals = 1 := hml0
  have hown : s.vm.findClass "com/example/plainwire/plainwire/rfc806/ElementQualifiedPinLaw" = some m.cls := findClass_of_methodNamed Bd.named
  have X0 : Stand p l e ({ frames := 0, cells := 0, slots := 0, locals := 0 } : Room) s m #[(.int (8 : Int32))] below meth c s₁ [] 0 0 := Stand.of_body Bd
  have e0 : s₁.heap = h0 := by rw [← hh, Bd.state]; rfl
  have N0 := Fr.nil n0
  have pre0 : ∀ t, Steps p.tables e below (s₁.setTop (mkF m 0 #[.val (.int (8 : Int32))] [])) t → Steps p.tables e below (s₁.setTop (entryFrame m #[(.int (8 : Int32))] 1)) t := fun t k => castTop (by first | (simp [entryFrame, mkF, argsToLocals, Value.category]; done) | rfl) k
  obtain ⟨T1, X1, e1, st1⟩ := getS X0 hx hZ hown (host := "") (hw _ (List.mem_of_getElem? (i := 38) rfl)) Via.refl e0 S_PADDING (g := (mkF m 79 #[.val (.int (8 : Int32))] [])) rfl (hb hby d0_79)
  obtain ⟨fs, hr, hrun, hended, hW, hsame⟩ := X1.leave (v := some (.ref s_PADDING)) (fun h => by rw [Bd.returns] at h; cases h)
  refine ⟨_, _, pre0 _ ?_, hrun, hended, _, _, rfl, ?_, ⟨_, rfl⟩, hW, hsame.mono (by decide) (by decide)⟩
  · show Steps p.tables e below (s₁.setTop (mkF m 0 #[.val (.int (8 : Int32))] [])) _
    refine XS.iloadN X0.here hx rfl (hb hby d0_0) rfl ?_
    show Steps p.tables e below (s₁.setTop (mkF m 1 #[.val (.int (8 : Int32))] [(.int (8 : Int32))])) _
    refine XS.ifYes X0.here hx rfl (pc0 := 1) (pc' := 8) rfl (hb hby d0_1) rfl (by decide +kernel) (by decide) (by decide) ?_
    show Steps p.tables e below (s₁.setTop (mkF m 8 #[.val (.int (8 : Int32))] [])) _
    refine XS.iloadN X0.here hx rfl (hb hby d0_8) rfl ?_
    show Steps p.tables e below (s₁.setTop (mkF m 9 #[.val (.int (8 : Int32))] [(.int (8 : Int32))])) _
    refine XS.iconst X0.here hx rfl (hb hby d0_9) ?_
    show Steps p.tables e below (s₁.setTop (mkF m 10 #[.val (.int (8 : Int32))] [(.int (1 : Int32)), (.int (8 : Int32))])) _
    refine XS.icmpYes X0.here hx rfl (pc0 := 10) (pc' := 17) rfl (hb hby d0_10) rfl (by decide +kernel) (by decide) (by decide) ?_
    show Steps p.tables e below (s₁.setTop (mkF m 17 #[.val (.int (8 : Int32))] [])) _
    refine XS.iloadN X0.here hx rfl (hb hby d0_17) rfl ?_
    show Steps p.tables e below (s₁.setTop (mkF m 18 #[.val (.int (8 : Int32))] [(.int (8 : Int32))])) _
    refine XS.iconst X0.here hx rfl (hb hby d0_18) ?_
    show Steps p.tables e below (s₁.setTop (mkF m 19 #[.val (.int (8 : Int32))] [(.int (2 : Int32)), (.int (8 : Int32))])) _
    refine XS.icmpYes X0.here hx rfl (pc0 := 19) (pc' := 26) rfl (hb hby d0_19) rfl (by decide +kernel) (by decide) (by decide) ?_
    show Steps p.tables e below (s₁.setTop (mkF m 26 #[.val (.int (8 : Int32))] [])) _
    refine XS.iloadN X0.here hx rfl (hb hby d0_26) rfl ?_
    show Steps p.tables e below (s₁.setTop (mkF m 27 #[.val (.int (8 : Int32))] [(.int (8 : Int32))])) _
    refine XS.iconst X0.here hx rfl (hb hby d0_27) ?_
    show Steps p.tables e below (s₁.setTop (mkF m 28 #[.val (.int (8 : Int32))] [(.int (3 : Int32)), (.int (8 : Int32))])) _
    refine XS.icmpYes X0.here hx rfl (pc0 := 28) (pc' := 35) rfl (hb hby d0_28) rfl (by decide +kernel) (by decide) (by decide) ?_
    show Steps p.tables e below (s₁.setTop (mkF m 35 #[.val (.int (8 : Int32))] [])) _
    refine XS.iloadN X0.here hx rfl (hb hby d0_35) rfl ?_
    show Steps p.tables e below (s₁.setTop (mkF m 36 #[.val (.int (8 : Int32))] [(.int (8 : Int32))])) _
    refine XS.iconst X0.here hx rfl (hb hby d0_36) ?_
    show Steps p.tables e below (s₁.setTop (mkF m 37 #[.val (.int (8 : Int32))] [(.int (4 : Int32)), (.int (8 : Int32))])) _
    refine XS.icmpYes X0.here hx rfl (pc0 := 37) (pc' := 44) rfl (hb hby d0_37) rfl (by decide +kernel) (by decide) (by decide) ?_
    show Steps p.tables e below (s₁.setTop (mkF m 44 #[.val (.int (8 : Int32))] [])) _
    refine XS.iloadN X0.here hx rfl (hb hby d0_44) rfl ?_
    show Steps p.tables e below (s₁.setTop (mkF m 45 #[.val (.int (8 : Int32))] [(.int (8 : Int32))])) _
    refine XS.iconst X0.here hx rfl (hb hby d0_45) ?_
    show Steps p.tables e below (s₁.setTop (mkF m 46 #[.val (.int (8 : Int32))] [(.int (5 : Int32)), (.int (8 : Int32))])) _
    refine XS.icmpYes X0.here hx rfl (pc0 := 46) (pc' := 53) rfl (hb hby d0_46) rfl (by decide +kernel) (by decide) (by decide) ?_
    show Steps p.tables e below (s₁.setTop (mkF m 53 #[.val (.int (8 : Int32))] [])) _
    refine XS.iloadN X0.here hx rfl (hb hby d0_53) rfl ?_
    show Steps p.tables e below (s₁.setTop (mkF m 54 #[.val (.int (8 : Int32))] [(.int (8 : Int32))])) _
    refine XS.bipush X0.here hx rfl (hb hby d0_54) ?_
    show Steps p.tables e below (s₁.setTop (mkF m 56 #[.val (.int (8 : Int32))] [(.int (6 : Int32)), (.int (8 : Int32))])) _
    refine XS.icmpYes X0.here hx rfl (pc0 := 56) (pc' := 63) rfl (hb hby d0_56) rfl (by decide +kernel) (by decide) (by decide) ?_
    show Steps p.tables e below (s₁.setTop (mkF m 63 #[.val (.int (8 : Int32))] [])) _
    refine XS.iloadN X0.here hx rfl (hb hby d0_63) rfl ?_
    show Steps p.tables e below (s₁.setTop (mkF m 64 #[.val (.int (8 : Int32))] [(.int (8 : Int32))])) _
    refine XS.bipush X0.here hx rfl (hb hby d0_64) ?_
    show Steps p.tables e below (s₁.setTop (mkF m 66 #[.val (.int (8 : Int32))] [(.int (7 : Int32)), (.int (8 : Int32))])) _
    refine XS.icmpYes X0.here hx rfl (pc0 := 66) (pc' := 73) rfl (hb hby d0_66) rfl (by decide +kernel) (by decide) (by decide) ?_
    show Steps p.tables e below (s₁.setTop (mkF m 73 #[.val (.int (8 : Int32))] [])) _
    refine XS.iloadN X0.here hx rfl (hb hby d0_73) rfl ?_
    show Steps p.tables e below (s₁.setTop (mkF m 74 #[.val (.int (8 : Int32))] [(.int (8 : Int32))])) _
    refine XS.bipush X0.here hx rfl (hb hby d0_74) ?_
    show Steps p.tables e below (s₁.setTop (mkF m 76 #[.val (.int (8 : Int32))] [(.int (8 : Int32)), (.int (8 : Int32))])) _
    refine XS.icmpNo X0.here hx rfl (hb hby d0_76) rfl (by decide +kernel) ?_
    show Steps p.tables e below (s₁.setTop (mkF m 79 #[.val (.int (8 : Int32))] [])) _
    refine st1 _ ?_
    show Steps p.tables e below (T1.setTop (mkF m 82 #[.val (.int (8 : Int32))] [(.ref s_PADDING)])) _
    exact retOut X1 hx (i := .areturn) Bd.returns rfl (Or.inr (Or.inr (Or.inr (Or.inr ⟨rfl, rfl, rfl⟩)))) (hb hby d0_82) hr
  · exact ⟨rfl, N0, e1⟩
set_option maxRecDepth 65536 in
set_option maxHeartbeats 40000000 in
theorem r33 (l : Launch) (Z : State) (a0 : Array Value) (hw : ∀ d ∈ tables_1, d.before a0 Z = true) (ws : List Jvm.Cond) (h0 : Heap) (n0 : Nat) (s_NO_OP : Addr) (s_END_OF_CONSTRUCTOR : Addr) (s_ASCII_STRING : Addr) (s_BOOLEAN : Addr) (s_UNIQUE_ID : Addr) (s_SEQUENCE : Addr) (s_SET : Addr) (s_INTEGER : Addr) (s_PADDING : Addr) (s_PROPERTY_LIST : Addr) (s_DATE : Addr) (s_BIT_STRING : Addr) (t_BIT_STRING_qualifierTag : Addr) (s_PROPERTY : Addr) (s_FIELD : Addr) (t_FIELD_qualifierTag : Addr) (s_COMPRESSED : Addr) (s_ENCRYPTED : Addr) (t_ENCRYPTED_qualifierTag : Addr) (s_MESSAGE : Addr) (t_MESSAGE_qualifierTag : Addr) (s_EXTENSION : Addr) (s_VENDOR_DEFINED : Addr) (K : Ctx Z h0 s_NO_OP s_END_OF_CONSTRUCTOR s_ASCII_STRING s_BOOLEAN s_UNIQUE_ID s_SEQUENCE s_SET s_INTEGER s_PADDING s_PROPERTY_LIST s_DATE s_BIT_STRING t_BIT_STRING_qualifierTag s_PROPERTY s_FIELD t_FIELD_qualifierTag s_COMPRESSED s_ENCRYPTED t_ENCRYPTED_qualifierTag s_MESSAGE t_MESSAGE_qualifierTag s_EXTENSION s_VENDOR_DEFINED) :
    MetFree l (⟨"com/example/plainwire/plainwire/rfc806/Element", "qualified", "()Z"⟩ : MethodName) (head1 (Jvm.Cond.code (⟨"com/example/plainwire/plainwire/rfc806/Element", "qualified", "()Z"⟩ : MethodName) prog_101_method_9_code 1 (some .boolean) :: ws) ({ frames := 0, cells := 0, slots := 0, locals := 0 } : Room)) (fun a U => a = #[(.ref s_PADDING)] ∧ Z.Warmed39 U.vm ∧ U.heap = h0) (fun _ _ _ _ _ => True) (fun _ U o U' => ∃ v L, o = .returned v ∧ QV (.int (0 : Int32)) h0 n0 v U'.heap L ∧ FrameEnd U o U' L ({ frames := 0, cells := 0, slots := 0, locals := 0 } : Room).cells ({ frames := 0, cells := 0, slots := 0, locals := 0 } : Room).slots) := by
  obtain ⟨S_NO_OP, F_NO_OP_code, E_NO_OP, F_NO_OP_qualifierTag, S_END_OF_CONSTRUCTOR, F_END_OF_CONSTRUCTOR_code, E_END_OF_CONSTRUCTOR, F_END_OF_CONSTRUCTOR_qualifierTag, S_ASCII_STRING, F_ASCII_STRING_code, E_ASCII_STRING, F_ASCII_STRING_qualifierTag, S_BOOLEAN, F_BOOLEAN_code, E_BOOLEAN, F_BOOLEAN_qualifierTag, S_UNIQUE_ID, F_UNIQUE_ID_code, E_UNIQUE_ID, F_UNIQUE_ID_qualifierTag, S_SEQUENCE, F_SEQUENCE_code, E_SEQUENCE, F_SEQUENCE_qualifierTag, S_SET, F_SET_code, E_SET, F_SET_qualifierTag, S_INTEGER, F_INTEGER_code, E_INTEGER, F_INTEGER_qualifierTag, S_PADDING, F_PADDING_code, E_PADDING, F_PADDING_qualifierTag, S_PROPERTY_LIST, F_PROPERTY_LIST_code, E_PROPERTY_LIST, F_PROPERTY_LIST_qualifierTag, S_DATE, F_DATE_code, E_DATE, F_DATE_qualifierTag, S_BIT_STRING, F_BIT_STRING_code, E_BIT_STRING, F_BIT_STRING_qualifierTag, S_PROPERTY, F_PROPERTY_code, E_PROPERTY, F_PROPERTY_qualifierTag, S_COMPRESSED, F_COMPRESSED_code, E_COMPRESSED, F_COMPRESSED_qualifierTag, S_ENCRYPTED, F_ENCRYPTED_code, E_ENCRYPTED, F_ENCRYPTED_qualifierTag, S_FIELD, F_FIELD_code, E_FIELD, F_FIELD_qualifierTag, S_MESSAGE, F_MESSAGE_code, E_MESSAGE, F_MESSAGE_qualifierTag, S_EXTENSION, F_EXTENSION_code, E_EXTENSION, F_EXTENSION_qualifierTag, S_VENDOR_DEFINED, F_VENDOR_DEFINED_code, E_VENDOR_DEFINED, F_VENDOR_DEFINED_qualifierTag⟩ := id K
  refine MetFree.of_bodySF (plainFor_of_name pn1) hisR ?_
  intro p e s m args below meth c s₁ Bd hml0 hP hK
  obtain ⟨rfl, hZ, hh⟩ := hP
  have hx := Bd.exec
  have hby := Bd.bytes
  have hml : c.maxLocals = 1 := hml0
  have hown : s.vm.findClass "com/example/plainwire/plainwire/rfc806/Element" = some m.cls := findClass_of_methodNamed Bd.named
  have X0 : Stand p l e ({ frames := 0, cells := 0, slots := 0, locals := 0 } : Room) s m #[(.ref s_PADDING)] below meth c s₁ [] 0 0 := Stand.of_body Bd
  have e0 : s₁.heap = h0 := by rw [← hh, Bd.state]; rfl
  have N0 := Fr.nil n0
  have pre0 : ∀ t, Steps p.tables e below (s₁.setTop (mkF m 0 #[.val (.ref s_PADDING)] [])) t → Steps p.tables e below (s₁.setTop (entryFrame m #[(.ref s_PADDING)] 1)) t := fun t k => castTop (by first | (simp [entryFrame, mkF, argsToLocals, Value.category]; done) | rfl) k
  obtain ⟨T1, X1, e1, st1⟩ := getF X0 hx hZ hown (host := "") (Or.inl (hw _ (List.mem_of_getElem? (i := 13) rfl))) Via.refl e0 F_PADDING_code (g := (mkF m 1 #[.val (.ref s_PADDING)] [(.ref s_PADDING)])) rfl rfl (hb hby d1_1)
  obtain ⟨fs, hr, hrun, hended, hW, hsame⟩ := X1.leave (v := some (.int (0 : Int32))) (fun h => by rw [Bd.returns] at h; cases h)
  refine ⟨_, _, pre0 _ ?_, hrun, hended, _, _, rfl, ?_, ⟨_, rfl⟩, hW, hsame.mono (by decide) (by decide)⟩
  · show Steps p.tables e below (s₁.setTop (mkF m 0 #[.val (.ref s_PADDING)] [])) _
    refine XS.aloadN X0.here hx rfl (hb hby d1_0) rfl rfl ?_
    show Steps p.tables e below (s₁.setTop (mkF m 1 #[.val (.ref s_PADDING)] [(.ref s_PADDING)])) _
    refine st1 _ ?_
    show Steps p.tables e below (T1.setTop (mkF m 4 #[.val (.ref s_PADDING)] [(.int (33 : Int32))])) _
    refine XS.bipush X1.here hx rfl (hb hby d1_4) ?_
    show Steps p.tables e below (T1.setTop (mkF m 6 #[.val (.ref s_PADDING)] [(.int (64 : Int32)), (.int (33 : Int32))])) _
    refine XS.iand X1.here hx rfl (hb hby d1_6) rfl ?_
    show Steps p.tables e below (T1.setTop (mkF m 7 #[.val (.ref s_PADDING)] [(.int ((33 : Int32) &&& (64 : Int32)))])) _
    rw [show ((33 : Int32) &&& (64 : Int32)) = (0 : Int32) from by decide +kernel]
    show Steps p.tables e below (T1.setTop (mkF m 7 #[.val (.ref s_PADDING)] [(.int (0 : Int32))])) _
    refine XS.ifYes X1.here hx rfl (pc0 := 7) (pc' := 14) rfl (hb hby d1_7) rfl (by decide +kernel) (by decide) (by decide) ?_
    show Steps p.tables e below (T1.setTop (mkF m 14 #[.val (.ref s_PADDING)] [])) _
    refine XS.iconst X1.here hx rfl (hb hby d1_14) ?_
    show Steps p.tables e below (T1.setTop (mkF m 15 #[.val (.ref s_PADDING)] [(.int (0 : Int32))])) _
    exact retN X1 hx (t := .boolean) Bd.returns (by simp) (hb hby d1_15) hr
  · exact ⟨rfl, N0, e1⟩
set_option maxRecDepth 65536 in
set_option maxHeartbeats 40000000 in
theorem r34 (l : Launch) (Z : State) (a0 : Array Value) (hw : ∀ d ∈ tables_1, d.before a0 Z = true) (ws : List Jvm.Cond) (h0 : Heap) (n0 : Nat) (s_NO_OP : Addr) (s_END_OF_CONSTRUCTOR : Addr) (s_ASCII_STRING : Addr) (s_BOOLEAN : Addr) (s_UNIQUE_ID : Addr) (s_SEQUENCE : Addr) (s_SET : Addr) (s_INTEGER : Addr) (s_PADDING : Addr) (s_PROPERTY_LIST : Addr) (s_DATE : Addr) (s_BIT_STRING : Addr) (t_BIT_STRING_qualifierTag : Addr) (s_PROPERTY : Addr) (s_FIELD : Addr) (t_FIELD_qualifierTag : Addr) (s_COMPRESSED : Addr) (s_ENCRYPTED : Addr) (t_ENCRYPTED_qualifierTag : Addr) (s_MESSAGE : Addr) (t_MESSAGE_qualifierTag : Addr) (s_EXTENSION : Addr) (s_VENDOR_DEFINED : Addr) (K : Ctx Z h0 s_NO_OP s_END_OF_CONSTRUCTOR s_ASCII_STRING s_BOOLEAN s_UNIQUE_ID s_SEQUENCE s_SET s_INTEGER s_PADDING s_PROPERTY_LIST s_DATE s_BIT_STRING t_BIT_STRING_qualifierTag s_PROPERTY s_FIELD t_FIELD_qualifierTag s_COMPRESSED s_ENCRYPTED t_ENCRYPTED_qualifierTag s_MESSAGE t_MESSAGE_qualifierTag s_EXTENSION s_VENDOR_DEFINED) :
    MetFree l (⟨"com/example/plainwire/plainwire/rfc806/Element", "qualifierTag", "()Ljava/lang/String;"⟩ : MethodName) (head1 (Jvm.Cond.code (⟨"com/example/plainwire/plainwire/rfc806/Element", "qualifierTag", "()Ljava/lang/String;"⟩ : MethodName) prog_101_method_10_code 1 (some (.object "java/lang/String")) :: ws) ({ frames := 0, cells := 0, slots := 0, locals := 0 } : Room)) (fun a U => a = #[(.ref s_PADDING)] ∧ Z.Warmed39 U.vm ∧ U.heap = h0) (fun _ _ _ _ _ => True) (fun _ U o U' => ∃ v L, o = .returned v ∧ QV .null h0 n0 v U'.heap L ∧ FrameEnd U o U' L ({ frames := 0, cells := 0, slots := 0, locals := 0 } : Room).cells ({ frames := 0, cells := 0, slots := 0, locals := 0 } : Room).slots) := by
  obtain ⟨S_NO_OP, F_NO_OP_code, E_NO_OP, F_NO_OP_qualifierTag, S_END_OF_CONSTRUCTOR, F_END_OF_CONSTRUCTOR_code, E_END_OF_CONSTRUCTOR, F_END_OF_CONSTRUCTOR_qualifierTag, S_ASCII_STRING, F_ASCII_STRING_code, E_ASCII_STRING, F_ASCII_STRING_qualifierTag, S_BOOLEAN, F_BOOLEAN_code, E_BOOLEAN, F_BOOLEAN_qualifierTag, S_UNIQUE_ID, F_UNIQUE_ID_code, E_UNIQUE_ID, F_UNIQUE_ID_qualifierTag, S_SEQUENCE, F_SEQUENCE_code, E_SEQUENCE, F_SEQUENCE_qualifierTag, S_SET, F_SET_code, E_SET, F_SET_qualifierTag, S_INTEGER, F_INTEGER_code, E_INTEGER, F_INTEGER_qualifierTag, S_PADDING, F_PADDING_code, E_PADDING, F_PADDING_qualifierTag, S_PROPERTY_LIST, F_PROPERTY_LIST_code, E_PROPERTY_LIST, F_PROPERTY_LIST_qualifierTag, S_DATE, F_DATE_code, E_DATE, F_DATE_qualifierTag, S_BIT_STRING, F_BIT_STRING_code, E_BIT_STRING, F_BIT_STRING_qualifierTag, S_PROPERTY, F_PROPERTY_code, E_PROPERTY, F_PROPERTY_qualifierTag, S_COMPRESSED, F_COMPRESSED_code, E_COMPRESSED, F_COMPRESSED_qualifierTag, S_ENCRYPTED, F_ENCRYPTED_code, E_ENCRYPTED, F_ENCRYPTED_qualifierTag, S_FIELD, F_FIELD_code, E_FIELD, F_FIELD_qualifierTag, S_MESSAGE, F_MESSAGE_code, E_MESSAGE, F_MESSAGE_qualifierTag, S_EXTENSION, F_EXTENSION_code, E_EXTENSION, F_EXTENSION_qualifierTag, S_VENDOR_DEFINED, F_VENDOR_DEFINED_code, E_VENDOR_DEFINED, F_VENDOR_DEFINED_qualifierTag⟩ := id K
  refine MetFree.of_bodySF (plainFor_of_name pn2) hisR ?_
  intro p e s m args below meth c s₁ Bd hml0 hP hK
  obtain ⟨rfl, hZ, hh⟩ := hP
  have hx := Bd.exec
  have hby := Bd.bytes
  have hml : c.maxLocals = 1 := hml0
  have hown : s.vm.findClass "com/example/plainwire/plainwire/rfc806/Element" = some m.cls := findClass_of_methodNamed Bd.named
  have X0 : Stand p l e ({ frames := 0, cells := 0, slots := 0, locals := 0 } : Room) s m #[(.ref s_PADDING)] below meth c s₁ [] 0 0 := Stand.of_body Bd
  have e0 : s₁.heap = h0 := by rw [← hh, Bd.state]; rfl
  have N0 := Fr.nil n0
  have pre0 : ∀ t, Steps p.tables e below (s₁.setTop (mkF m 0 #[.val (.ref s_PADDING)] [])) t → Steps p.tables e below (s₁.setTop (entryFrame m #[(.ref s_PADDING)] 1)) t := fun t k => castTop (by first | (simp [entryFrame, mkF, argsToLocals, Value.category]; done) | rfl) k
  obtain ⟨T1, X1, e1, st1⟩ := getF X0 hx hZ hown (host := "") (Or.inl (hw _ (List.mem_of_getElem? (i := 20) rfl))) Via.refl e0 F_PADDING_qualifierTag (g := (mkF m 1 #[.val (.ref s_PADDING)] [(.ref s_PADDING)])) rfl rfl (hb hby d2_1)
  obtain ⟨fs, hr, hrun, hended, hW, hsame⟩ := X1.leave (v := some .null) (fun h => by rw [Bd.returns] at h; cases h)
  refine ⟨_, _, pre0 _ ?_, hrun, hended, _, _, rfl, ?_, ⟨_, rfl⟩, hW, hsame.mono (by decide) (by decide)⟩
  · show Steps p.tables e below (s₁.setTop (mkF m 0 #[.val (.ref s_PADDING)] [])) _
    refine XS.aloadN X0.here hx rfl (hb hby d2_0) rfl rfl ?_
    show Steps p.tables e below (s₁.setTop (mkF m 1 #[.val (.ref s_PADDING)] [(.ref s_PADDING)])) _
    refine st1 _ ?_
    show Steps p.tables e below (T1.setTop (mkF m 4 #[.val (.ref s_PADDING)] [.null])) _
    exact retOut X1 hx (i := .areturn) Bd.returns rfl (Or.inr (Or.inr (Or.inr (Or.inr ⟨rfl, rfl, rfl⟩)))) (hb hby d2_4) hr
  · exact ⟨rfl, N0, e1⟩
set_option maxRecDepth 65536 in
set_option maxHeartbeats 40000000 in
theorem law_k8 (l : Launch) (Z : State) (a0 : Array Value) (hw : ∀ d ∈ tables_1, d.before a0 Z = true) (ws : List Jvm.Cond) (h0 : Heap) (n0 : Nat) (s_NO_OP : Addr) (s_END_OF_CONSTRUCTOR : Addr) (s_ASCII_STRING : Addr) (s_BOOLEAN : Addr) (s_UNIQUE_ID : Addr) (s_SEQUENCE : Addr) (s_SET : Addr) (s_INTEGER : Addr) (s_PADDING : Addr) (s_PROPERTY_LIST : Addr) (s_DATE : Addr) (s_BIT_STRING : Addr) (t_BIT_STRING_qualifierTag : Addr) (s_PROPERTY : Addr) (s_FIELD : Addr) (t_FIELD_qualifierTag : Addr) (s_COMPRESSED : Addr) (s_ENCRYPTED : Addr) (t_ENCRYPTED_qualifierTag : Addr) (s_MESSAGE : Addr) (t_MESSAGE_qualifierTag : Addr) (s_EXTENSION : Addr) (s_VENDOR_DEFINED : Addr) (K : Ctx Z h0 s_NO_OP s_END_OF_CONSTRUCTOR s_ASCII_STRING s_BOOLEAN s_UNIQUE_ID s_SEQUENCE s_SET s_INTEGER s_PADDING s_PROPERTY_LIST s_DATE s_BIT_STRING t_BIT_STRING_qualifierTag s_PROPERTY s_FIELD t_FIELD_qualifierTag s_COMPRESSED s_ENCRYPTED t_ENCRYPTED_qualifierTag s_MESSAGE t_MESSAGE_qualifierTag s_EXTENSION s_VENDOR_DEFINED) (p0 : Int32) (hp0 : ((p0 &&& (2147483647 : Int32)) % (19 : Int32)) = (8 : Int32)) :
    MetFree l x (head1 (Jvm.Cond.code x code maxLocals ret :: ws) room_1) (fun a U => a = #[(.int p0)] ∧ Z.Warmed39 U.vm ∧ U.heap = h0) (fun _ _ _ _ _ => True) (fun _ U o U' => ∃ v L, o = .returned v ∧ QV (.int (1 : Int32)) h0 n0 v U'.heap L ∧ FrameEnd U o U' L room_1.cells room_1.slots) := by
  obtain ⟨S_NO_OP, F_NO_OP_code, E_NO_OP, F_NO_OP_qualifierTag, S_END_OF_CONSTRUCTOR, F_END_OF_CONSTRUCTOR_code, E_END_OF_CONSTRUCTOR, F_END_OF_CONSTRUCTOR_qualifierTag, S_ASCII_STRING, F_ASCII_STRING_code, E_ASCII_STRING, F_ASCII_STRING_qualifierTag, S_BOOLEAN, F_BOOLEAN_code, E_BOOLEAN, F_BOOLEAN_qualifierTag, S_UNIQUE_ID, F_UNIQUE_ID_code, E_UNIQUE_ID, F_UNIQUE_ID_qualifierTag, S_SEQUENCE, F_SEQUENCE_code, E_SEQUENCE, F_SEQUENCE_qualifierTag, S_SET, F_SET_code, E_SET, F_SET_qualifierTag, S_INTEGER, F_INTEGER_code, E_INTEGER, F_INTEGER_qualifierTag, S_PADDING, F_PADDING_code, E_PADDING, F_PADDING_qualifierTag, S_PROPERTY_LIST, F_PROPERTY_LIST_code, E_PROPERTY_LIST, F_PROPERTY_LIST_qualifierTag, S_DATE, F_DATE_code, E_DATE, F_DATE_qualifierTag, S_BIT_STRING, F_BIT_STRING_code, E_BIT_STRING, F_BIT_STRING_qualifierTag, S_PROPERTY, F_PROPERTY_code, E_PROPERTY, F_PROPERTY_qualifierTag, S_COMPRESSED, F_COMPRESSED_code, E_COMPRESSED, F_COMPRESSED_qualifierTag, S_ENCRYPTED, F_ENCRYPTED_code, E_ENCRYPTED, F_ENCRYPTED_qualifierTag, S_FIELD, F_FIELD_code, E_FIELD, F_FIELD_qualifierTag, S_MESSAGE, F_MESSAGE_code, E_MESSAGE, F_MESSAGE_qualifierTag, S_EXTENSION, F_EXTENSION_code, E_EXTENSION, F_EXTENSION_qualifierTag, S_VENDOR_DEFINED, F_VENDOR_DEFINED_code, E_VENDOR_DEFINED, F_VENDOR_DEFINED_qualifierTag⟩ := id K
  refine MetFree.of_bodySF (plainFor_of_name pn3) hisR ?_
  intro p e s m args below meth c s₁ Bd hml0 hP hK
  obtain ⟨rfl, hZ, hh⟩ := hP
  have hx := Bd.exec
  have hby := Bd.bytes
  have hml : c.maxLocals = 6 := hml0
  have hown : s.vm.findClass "com/example/plainwire/plainwire/rfc806/ElementQualifiedPinLaw" = some m.cls := findClass_of_methodNamed Bd.named
  have X0 : Stand p l e room_1 s m #[(.int p0)] below meth c s₁ [] 0 0 := Stand.of_body Bd
  have e0 : s₁.heap = h0 := by rw [← hh, Bd.state]; rfl
  have N0 := Fr.nil n0
  have pre0 : ∀ t, Steps p.tables e below (s₁.setTop (mkF m 0 #[.val (.int p0), .unset, .unset, .unset, .unset, .unset] [])) t → Steps p.tables e below (s₁.setTop (entryFrame m #[(.int p0)] maxLocals)) t := fun t k => castTop (by first | (simp [entryFrame, mkF, argsToLocals, Value.category, maxLocals]; done) | rfl) k
  obtain ⟨_, _, ⟨T1, L1, k1, n1⟩, -, X1, ⟨Lc1, hQ1, l1, y1, z1⟩, st1⟩ := Jvm.LawKit.callS X0 hx (y := (⟨"com/example/plainwire/plainwire/rfc806/ElementQualifiedPinLaw", "pick", "(I)Lcom/example/plainwire/plainwire/rfc806/Element;"⟩ : MethodName)) hown (mvT hZ (hw _ (List.mem_of_getElem? (i := 1) rfl))) (mvT hZ (hw _ (List.mem_of_getElem? (i := 2) rfl))) (mvT hZ (hw _ (List.mem_of_getElem? (i := 3) rfl))) (mvT hZ (hw _ (List.mem_of_getElem? (i := 4) rfl))) (by decide) (backOf (W := 0) (r32 l Z a0 hw [] h0 n0 s_NO_OP s_END_OF_CONSTRUCTOR s_ASCII_STRING s_BOOLEAN s_UNIQUE_ID s_SEQUENCE s_SET s_INTEGER s_PADDING s_PROPERTY_LIST s_DATE s_BIT_STRING t_BIT_STRING_qualifierTag s_PROPERTY s_FIELD t_FIELD_qualifierTag s_COMPRESSED s_ENCRYPTED t_ENCRYPTED_qualifierTag s_MESSAGE t_MESSAGE_qualifierTag s_EXTENSION s_VENDOR_DEFINED K) hZ (hw _ (List.mem_of_getElem? (i := 4) rfl)) (hw _ (List.mem_of_getElem? (i := 3) rfl)) (by decide) (by decide)) (g := (mkF m 9 #[.val (.int p0), .val (.int (8 : Int32)), .unset, .unset, .unset, .unset] [(.int (8 : Int32))])) rfl (by rw [hml]; rfl) (argsL := [(.int (8 : Int32))]) (rest := []) (lenOf pd0 rfl) rfl (by show 2 * 0 + _ ≤ _; exact Nat.le_of_eq rfl) (hb hby at_9) (fun _ _ => ⟨rfl, e0, (by decide : 0 + 0 ≤ _), (by decide : 0 + 0 ≤ _)⟩)
  dsimp only [Pt.U, Pt.locs, Pt.cells, Pt.slots] at X1 l1 y1 z1 st1 hQ1
  subst l1 y1 z1
  obtain ⟨rfl, N1q, e1⟩ := hQ1
  have N1 := Fr.app N0 N1q
  obtain ⟨cq2, kq2, q2a, q2b, q2c⟩ := isOf hZ e1 E_PADDING
  obtain ⟨_, _, ⟨T2, L2, k2, n2⟩, -, X2, ⟨Lc2, hQ2, l2, y2, z2⟩, st2⟩ := X1.virtualBack hx (y := (⟨"com/example/plainwire/plainwire/rfc806/Element", "qualified", "()Z"⟩ : MethodName)) (z := (⟨"com/example/plainwire/plainwire/rfc806/Element", "qualified", "()Z"⟩ : MethodName)) hown (mvT hZ (hw _ (List.mem_of_getElem? (i := 8) rfl))) (mvT hZ (hw _ (List.mem_of_getElem? (i := 9) rfl))) (notFace_of_selects (args := #[]) (mvT hZ (hw _ (List.mem_of_getElem? (i := 11) rfl)))) (mvT hZ (hw _ (List.mem_of_getElem? (i := 11) rfl))) (mvT hZ (hw _ (List.mem_of_getElem? (i := 10) rfl))) (by decide) (backOf (W := 0) (r33 l Z a0 hw [] h0 n0 s_NO_OP s_END_OF_CONSTRUCTOR s_ASCII_STRING s_BOOLEAN s_UNIQUE_ID s_SEQUENCE s_SET s_INTEGER s_PADDING s_PROPERTY_LIST s_DATE s_BIT_STRING t_BIT_STRING_qualifierTag s_PROPERTY s_FIELD t_FIELD_qualifierTag s_COMPRESSED s_ENCRYPTED t_ENCRYPTED_qualifierTag s_MESSAGE t_MESSAGE_qualifierTag s_EXTENSION s_VENDOR_DEFINED K) hZ (hw _ (List.mem_of_getElem? (i := 12) rfl)) (hw _ (List.mem_of_getElem? (i := 6) rfl)) (by decide) (by decide)) q2a q2c (g := (mkF m 26 #[.val (.int p0), .val (.int (8 : Int32)), .val (.ref s_PADDING), .val (.int (0 : Int32)), .unset, .unset] [(.ref s_PADDING)])) rfl (by rw [hml]; rfl) (Steps.refl _) (argsL := []) (rest := []) (lenOf pd1 rfl) rfl (by show 2 * 0 + _ ≤ _; exact Nat.le_of_eq rfl) (hb hby at_26) (fun _ _ => ⟨rfl, e1, (by decide : 0 + 0 ≤ _), (by decide : 0 + 0 ≤ _)⟩)
  dsimp only [Pt.U, Pt.locs, Pt.cells, Pt.slots] at X2 l2 y2 z2 st2 hQ2
  subst l2 y2 z2
  obtain ⟨rfl, N2q, e2⟩ := hQ2
  have N2 := Fr.app N1 N2q
  obtain ⟨cq3, kq3, q3a, q3b, q3c⟩ := isOf hZ e2 E_PADDING
  obtain ⟨_, _, ⟨T3, L3, k3, n3⟩, -, X3, ⟨Lc3, hQ3, l3, y3, z3⟩, st3⟩ := X2.virtualBack hx (y := (⟨"com/example/plainwire/plainwire/rfc806/Element", "qualifierTag", "()Ljava/lang/String;"⟩ : MethodName)) (z := (⟨"com/example/plainwire/plainwire/rfc806/Element", "qualifierTag", "()Ljava/lang/String;"⟩ : MethodName)) hown (mvT hZ (hw _ (List.mem_of_getElem? (i := 15) rfl))) (mvT hZ (hw _ (List.mem_of_getElem? (i := 16) rfl))) (notFace_of_selects (args := #[]) (mvT hZ (hw _ (List.mem_of_getElem? (i := 18) rfl)))) (mvT hZ (hw _ (List.mem_of_getElem? (i := 18) rfl))) (mvT hZ (hw _ (List.mem_of_getElem? (i := 17) rfl))) (by decide) (backOf (W := 0) (r34 l Z a0 hw [] h0 n0 s_NO_OP s_END_OF_CONSTRUCTOR s_ASCII_STRING s_BOOLEAN s_UNIQUE_ID s_SEQUENCE s_SET s_INTEGER s_PADDING s_PROPERTY_LIST s_DATE s_BIT_STRING t_BIT_STRING_qualifierTag s_PROPERTY s_FIELD t_FIELD_qualifierTag s_COMPRESSED s_ENCRYPTED t_ENCRYPTED_qualifierTag s_MESSAGE t_MESSAGE_qualifierTag s_EXTENSION s_VENDOR_DEFINED K) hZ (hw _ (List.mem_of_getElem? (i := 19) rfl)) (hw _ (List.mem_of_getElem? (i := 6) rfl)) (by decide) (by decide)) q3a q3c (g := (mkF m 32 #[.val (.int p0), .val (.int (8 : Int32)), .val (.ref s_PADDING), .val (.int (0 : Int32)), .val (.int (0 : Int32)), .unset] [(.ref s_PADDING)])) rfl (by rw [hml]; rfl) (Steps.refl _) (argsL := []) (rest := []) (lenOf pd2 rfl) rfl (by show 2 * 0 + _ ≤ _; exact Nat.le_of_eq rfl) (hb hby at_32) (fun _ _ => ⟨rfl, e2, (by decide : 0 + 0 ≤ _), (by decide : 0 + 0 ≤ _)⟩)
  dsimp only [Pt.U, Pt.locs, Pt.cells, Pt.slots] at X3 l3 y3 z3 st3 hQ3
  subst l3 y3 z3
  obtain ⟨rfl, N3q, e3⟩ := hQ3
  have N3 := Fr.app N2 N3q
  obtain ⟨fs, hr, hrun, hended, hW, hsame⟩ := X3.leave (v := some (.int (1 : Int32))) (fun h => by rw [Bd.returns] at h; cases h)
  refine ⟨_, _, pre0 _ ?_, hrun, hended, _, _, rfl, ?_, ⟨_, rfl⟩, hW, hsame.mono (by decide) (by decide)⟩
  · show Steps p.tables e below (s₁.setTop (mkF m 0 #[.val (.int p0), .unset, .unset, .unset, .unset, .unset] [])) _
    refine XS.iloadN X0.here hx rfl (hb hby at_0) rfl ?_
    show Steps p.tables e below (s₁.setTop (mkF m 1 #[.val (.int p0), .unset, .unset, .unset, .unset, .unset] [(.int p0)])) _
    refine X0.ldcInt hx hown (mvT hZ (hw _ (List.mem_of_getElem? (i := 0) rfl))) (g := (mkF m 1 #[.val (.int p0), .unset, .unset, .unset, .unset, .unset] [(.int p0)])) rfl (hb hby at_1) _ ?_
    show Steps p.tables e below (s₁.setTop (mkF m 3 #[.val (.int p0), .unset, .unset, .unset, .unset, .unset] [(.int (2147483647 : Int32)), (.int p0)])) _
    refine XS.iand X0.here hx rfl (hb hby at_3) rfl ?_
    show Steps p.tables e below (s₁.setTop (mkF m 4 #[.val (.int p0), .unset, .unset, .unset, .unset, .unset] [(.int (p0 &&& (2147483647 : Int32)))])) _
    refine XS.bipush X0.here hx rfl (hb hby at_4) ?_
    show Steps p.tables e below (s₁.setTop (mkF m 6 #[.val (.int p0), .unset, .unset, .unset, .unset, .unset] [(.int (19 : Int32)), (.int (p0 &&& (2147483647 : Int32)))])) _
    refine Jvm.RoadKit.iremM X0 hx rfl (hb hby at_6) rfl (by decide) ?_
    show Steps p.tables e below (s₁.setTop (mkF m 7 #[.val (.int p0), .unset, .unset, .unset, .unset, .unset] [(.int ((p0 &&& (2147483647 : Int32)) % (19 : Int32)))])) _
    rw [hp0]
    show Steps p.tables e below (s₁.setTop (mkF m 7 #[.val (.int p0), .unset, .unset, .unset, .unset, .unset] [(.int (8 : Int32))])) _
    refine XS.istoreN X0.here hx rfl (hb hby at_7) rfl (l' := #[.val (.int p0), .val (.int (8 : Int32)), .unset, .unset, .unset, .unset]) rfl ?_
    show Steps p.tables e below (s₁.setTop (mkF m 8 #[.val (.int p0), .val (.int (8 : Int32)), .unset, .unset, .unset, .unset] [])) _
    refine XS.iloadN X0.here hx rfl (hb hby at_8) rfl ?_
    show Steps p.tables e below (s₁.setTop (mkF m 9 #[.val (.int p0), .val (.int (8 : Int32)), .unset, .unset, .unset, .unset] [(.int (8 : Int32))])) _
    refine st1 _ ?_
    show Steps p.tables e below (T1.setTop (mkF m 12 #[.val (.int p0), .val (.int (8 : Int32)), .unset, .unset, .unset, .unset] [(.ref s_PADDING)])) _
    refine XS.astoreN X1.here hx rfl (hb hby at_12) rfl rfl (l' := #[.val (.int p0), .val (.int (8 : Int32)), .val (.ref s_PADDING), .unset, .unset, .unset]) rfl ?_
    show Steps p.tables e below (T1.setTop (mkF m 13 #[.val (.int p0), .val (.int (8 : Int32)), .val (.ref s_PADDING), .unset, .unset, .unset] [])) _
    refine XS.iloadN X1.here hx rfl (hb hby at_13) rfl ?_
    show Steps p.tables e below (T1.setTop (mkF m 14 #[.val (.int p0), .val (.int (8 : Int32)), .val (.ref s_PADDING), .unset, .unset, .unset] [(.int (8 : Int32))])) _
    refine XS.bipush X1.here hx rfl (hb hby at_14) ?_
    show Steps p.tables e below (T1.setTop (mkF m 16 #[.val (.int p0), .val (.int (8 : Int32)), .val (.ref s_PADDING), .unset, .unset, .unset] [(.int (11 : Int32)), (.int (8 : Int32))])) _
    refine XS.icmpYes X1.here hx rfl (pc0 := 16) (pc' := 23) rfl (hb hby at_16) rfl (by decide +kernel) (by decide) (by decide) ?_
    show Steps p.tables e below (T1.setTop (mkF m 23 #[.val (.int p0), .val (.int (8 : Int32)), .val (.ref s_PADDING), .unset, .unset, .unset] [])) _
    refine XS.iconst X1.here hx rfl (hb hby at_23) ?_
    show Steps p.tables e below (T1.setTop (mkF m 24 #[.val (.int p0), .val (.int (8 : Int32)), .val (.ref s_PADDING), .unset, .unset, .unset] [(.int (0 : Int32))])) _
    refine XS.istoreN X1.here hx rfl (hb hby at_24) rfl (l' := #[.val (.int p0), .val (.int (8 : Int32)), .val (.ref s_PADDING), .val (.int (0 : Int32)), .unset, .unset]) rfl ?_
    show Steps p.tables e below (T1.setTop (mkF m 25 #[.val (.int p0), .val (.int (8 : Int32)), .val (.ref s_PADDING), .val (.int (0 : Int32)), .unset, .unset] [])) _
    refine XS.aloadN X1.here hx rfl (hb hby at_25) rfl rfl ?_
    show Steps p.tables e below (T1.setTop (mkF m 26 #[.val (.int p0), .val (.int (8 : Int32)), .val (.ref s_PADDING), .val (.int (0 : Int32)), .unset, .unset] [(.ref s_PADDING)])) _
    refine st2.trans ?_
    show Steps p.tables e below (T2.setTop (mkF m 29 #[.val (.int p0), .val (.int (8 : Int32)), .val (.ref s_PADDING), .val (.int (0 : Int32)), .unset, .unset] [(.int (0 : Int32))])) _
    refine XS.istore X2.here hx rfl (hb hby at_29) rfl (l' := #[.val (.int p0), .val (.int (8 : Int32)), .val (.ref s_PADDING), .val (.int (0 : Int32)), .val (.int (0 : Int32)), .unset]) rfl ?_
    show Steps p.tables e below (T2.setTop (mkF m 31 #[.val (.int p0), .val (.int (8 : Int32)), .val (.ref s_PADDING), .val (.int (0 : Int32)), .val (.int (0 : Int32)), .unset] [])) _
    refine XS.aloadN X2.here hx rfl (hb hby at_31) rfl rfl ?_
    show Steps p.tables e below (T2.setTop (mkF m 32 #[.val (.int p0), .val (.int (8 : Int32)), .val (.ref s_PADDING), .val (.int (0 : Int32)), .val (.int (0 : Int32)), .unset] [(.ref s_PADDING)])) _
    refine st3.trans ?_
    show Steps p.tables e below (T3.setTop (mkF m 35 #[.val (.int p0), .val (.int (8 : Int32)), .val (.ref s_PADDING), .val (.int (0 : Int32)), .val (.int (0 : Int32)), .unset] [.null])) _
    refine XS.ifnullYes X3.here hx rfl (pc0 := 35) (pc' := 42) rfl (hb hby at_35) rfl (by decide) (by decide) ?_
    show Steps p.tables e below (T3.setTop (mkF m 42 #[.val (.int p0), .val (.int (8 : Int32)), .val (.ref s_PADDING), .val (.int (0 : Int32)), .val (.int (0 : Int32)), .unset] [])) _
    refine XS.iconst X3.here hx rfl (hb hby at_42) ?_
    show Steps p.tables e below (T3.setTop (mkF m 43 #[.val (.int p0), .val (.int (8 : Int32)), .val (.ref s_PADDING), .val (.int (0 : Int32)), .val (.int (0 : Int32)), .unset] [(.int (0 : Int32))])) _
    refine XS.istore X3.here hx rfl (hb hby at_43) rfl (l' := #[.val (.int p0), .val (.int (8 : Int32)), .val (.ref s_PADDING), .val (.int (0 : Int32)), .val (.int (0 : Int32)), .val (.int (0 : Int32))]) rfl ?_
    show Steps p.tables e below (T3.setTop (mkF m 45 #[.val (.int p0), .val (.int (8 : Int32)), .val (.ref s_PADDING), .val (.int (0 : Int32)), .val (.int (0 : Int32)), .val (.int (0 : Int32))] [])) _
    refine XS.iload X3.here hx rfl (hb hby at_45) rfl ?_
    show Steps p.tables e below (T3.setTop (mkF m 47 #[.val (.int p0), .val (.int (8 : Int32)), .val (.ref s_PADDING), .val (.int (0 : Int32)), .val (.int (0 : Int32)), .val (.int (0 : Int32))] [(.int (0 : Int32))])) _
    refine XS.iloadN X3.here hx rfl (hb hby at_47) rfl ?_
    show Steps p.tables e below (T3.setTop (mkF m 48 #[.val (.int p0), .val (.int (8 : Int32)), .val (.ref s_PADDING), .val (.int (0 : Int32)), .val (.int (0 : Int32)), .val (.int (0 : Int32))] [(.int (0 : Int32)), (.int (0 : Int32))])) _
    refine XS.icmpNo X3.here hx rfl (hb hby at_48) rfl (by decide +kernel) ?_
    show Steps p.tables e below (T3.setTop (mkF m 51 #[.val (.int p0), .val (.int (8 : Int32)), .val (.ref s_PADDING), .val (.int (0 : Int32)), .val (.int (0 : Int32)), .val (.int (0 : Int32))] [])) _
    refine XS.iload X3.here hx rfl (hb hby at_51) rfl ?_
    show Steps p.tables e below (T3.setTop (mkF m 53 #[.val (.int p0), .val (.int (8 : Int32)), .val (.ref s_PADDING), .val (.int (0 : Int32)), .val (.int (0 : Int32)), .val (.int (0 : Int32))] [(.int (0 : Int32))])) _
    refine XS.iload X3.here hx rfl (hb hby at_53) rfl ?_
    show Steps p.tables e below (T3.setTop (mkF m 55 #[.val (.int p0), .val (.int (8 : Int32)), .val (.ref s_PADDING), .val (.int (0 : Int32)), .val (.int (0 : Int32)), .val (.int (0 : Int32))] [(.int (0 : Int32)), (.int (0 : Int32))])) _
    refine XS.icmpNo X3.here hx rfl (hb hby at_55) rfl (by decide +kernel) ?_
    show Steps p.tables e below (T3.setTop (mkF m 58 #[.val (.int p0), .val (.int (8 : Int32)), .val (.ref s_PADDING), .val (.int (0 : Int32)), .val (.int (0 : Int32)), .val (.int (0 : Int32))] [])) _
    refine XS.iconst X3.here hx rfl (hb hby at_58) ?_
    show Steps p.tables e below (T3.setTop (mkF m 59 #[.val (.int p0), .val (.int (8 : Int32)), .val (.ref s_PADDING), .val (.int (0 : Int32)), .val (.int (0 : Int32)), .val (.int (0 : Int32))] [(.int (1 : Int32))])) _
    refine XS.goto X3.here hx rfl (pc0 := 59) (pc' := 63) rfl (hb hby at_59) (by decide) (by decide) ?_
    show Steps p.tables e below (T3.setTop (mkF m 63 #[.val (.int p0), .val (.int (8 : Int32)), .val (.ref s_PADDING), .val (.int (0 : Int32)), .val (.int (0 : Int32)), .val (.int (0 : Int32))] [(.int (1 : Int32))])) _
    exact retN X3 hx (t := .boolean) Bd.returns (by simp) (hb hby at_63) hr
  · exact ⟨rfl, N3, e3⟩
set_option maxRecDepth 65536 in
set_option maxHeartbeats 40000000 in
theorem r36 (l : Launch) (Z : State) (a0 : Array Value) (hw : ∀ d ∈ tables_1, d.before a0 Z = true) (ws : List Jvm.Cond) (h0 : Heap) (n0 : Nat) (s_NO_OP : Addr) (s_END_OF_CONSTRUCTOR : Addr) (s_ASCII_STRING : Addr) (s_BOOLEAN : Addr) (s_UNIQUE_ID : Addr) (s_SEQUENCE : Addr) (s_SET : Addr) (s_INTEGER : Addr) (s_PADDING : Addr) (s_PROPERTY_LIST : Addr) (s_DATE : Addr) (s_BIT_STRING : Addr) (t_BIT_STRING_qualifierTag : Addr) (s_PROPERTY : Addr) (s_FIELD : Addr) (t_FIELD_qualifierTag : Addr) (s_COMPRESSED : Addr) (s_ENCRYPTED : Addr) (t_ENCRYPTED_qualifierTag : Addr) (s_MESSAGE : Addr) (t_MESSAGE_qualifierTag : Addr) (s_EXTENSION : Addr) (s_VENDOR_DEFINED : Addr) (K : Ctx Z h0 s_NO_OP s_END_OF_CONSTRUCTOR s_ASCII_STRING s_BOOLEAN s_UNIQUE_ID s_SEQUENCE s_SET s_INTEGER s_PADDING s_PROPERTY_LIST s_DATE s_BIT_STRING t_BIT_STRING_qualifierTag s_PROPERTY s_FIELD t_FIELD_qualifierTag s_COMPRESSED s_ENCRYPTED t_ENCRYPTED_qualifierTag s_MESSAGE t_MESSAGE_qualifierTag s_EXTENSION s_VENDOR_DEFINED) :
    MetFree l (⟨"com/example/plainwire/plainwire/rfc806/ElementQualifiedPinLaw", "pick", "(I)Lcom/example/plainwire/plainwire/rfc806/Element;"⟩ : MethodName) (head1 (Jvm.Cond.code (⟨"com/example/plainwire/plainwire/rfc806/ElementQualifiedPinLaw", "pick", "(I)Lcom/example/plainwire/plainwire/rfc806/Element;"⟩ : MethodName) method_2_code 1 (some (.object "com/example/plainwire/plainwire/rfc806/Element")) :: ws) ({ frames := 0, cells := 0, slots := 0, locals := 0 } : Room)) (fun a U => a = #[(.int (9 : Int32))] ∧ Z.Warmed39 U.vm ∧ U.heap = h0) (fun _ _ _ _ _ => True) (fun _ U o U' => ∃ v L, o = .returned v ∧ QV (.ref s_PROPERTY_LIST) h0 n0 v U'.heap L ∧ FrameEnd U o U' L ({ frames := 0, cells := 0, slots := 0, locals := 0 } : Room).cells ({ frames := 0, cells := 0, slots := 0, locals := 0 } : Room).slots) := by
  obtain ⟨S_NO_OP, F_NO_OP_code, E_NO_OP, F_NO_OP_qualifierTag, S_END_OF_CONSTRUCTOR, F_END_OF_CONSTRUCTOR_code, E_END_OF_CONSTRUCTOR, F_END_OF_CONSTRUCTOR_qualifierTag, S_ASCII_STRING, F_ASCII_STRING_code, E_ASCII_STRING, F_ASCII_STRING_qualifierTag, S_BOOLEAN, F_BOOLEAN_code, E_BOOLEAN, F_BOOLEAN_qualifierTag, S_UNIQUE_ID, F_UNIQUE_ID_code, E_UNIQUE_ID, F_UNIQUE_ID_qualifierTag, S_SEQUENCE, F_SEQUENCE_code, E_SEQUENCE, F_SEQUENCE_qualifierTag, S_SET, F_SET_code, E_SET, F_SET_qualifierTag, S_INTEGER, F_INTEGER_code, E_INTEGER, F_INTEGER_qualifierTag, S_PADDING, F_PADDING_code, E_PADDING, F_PADDING_qualifierTag, S_PROPERTY_LIST, F_PROPERTY_LIST_code, E_PROPERTY_LIST, F_PROPERTY_LIST_qualifierTag, S_DATE, F_DATE_code, E_DATE, F_DATE_qualifierTag, S_BIT_STRING, F_BIT_STRING_code, E_BIT_STRING, F_BIT_STRING_qualifierTag, S_PROPERTY, F_PROPERTY_code, E_PROPERTY, F_PROPERTY_qualifierTag, S_COMPRESSED, F_COMPRESSED_code, E_COMPRESSED, F_COMPRESSED_qualifierTag, S_ENCRYPTED, F_ENCRYPTED_code, E_ENCRYPTED, F_ENCRYPTED_qualifierTag, S_FIELD, F_FIELD_code, E_FIELD, F_FIELD_qualifierTag, S_MESSAGE, F_MESSAGE_code, E_MESSAGE, F_MESSAGE_qualifierTag, S_EXTENSION, F_EXTENSION_code, E_EXTENSION, F_EXTENSION_qualifierTag, S_VENDOR_DEFINED, F_VENDOR_DEFINED_code, E_VENDOR_DEFINED, F_VENDOR_DEFINED_qualifierTag⟩ := id K
  refine MetFree.of_bodySF (plainFor_of_name pn0) hisR ?_
  intro p e s m args below meth c s₁ Bd hml0 hP hK
  obtain ⟨rfl, hZ, hh⟩ := hP
  have hx := Bd.exec
  have hby := Bd.bytes
  have hml : c.maxLocals = 1 := hml0
  have hown : s.vm.findClass "com/example/plainwire/plainwire/rfc806/ElementQualifiedPinLaw" = some m.cls := findClass_of_methodNamed Bd.named
  have X0 : Stand p l e ({ frames := 0, cells := 0, slots := 0, locals := 0 } : Room) s m #[(.int (9 : Int32))] below meth c s₁ [] 0 0 := Stand.of_body Bd
  have e0 : s₁.heap = h0 := by rw [← hh, Bd.state]; rfl
  have N0 := Fr.nil n0
  have pre0 : ∀ t, Steps p.tables e below (s₁.setTop (mkF m 0 #[.val (.int (9 : Int32))] [])) t → Steps p.tables e below (s₁.setTop (entryFrame m #[(.int (9 : Int32))] 1)) t := fun t k => castTop (by first | (simp [entryFrame, mkF, argsToLocals, Value.category]; done) | rfl) k
  obtain ⟨T1, X1, e1, st1⟩ := getS X0 hx hZ hown (host := "") (hw _ (List.mem_of_getElem? (i := 52) rfl)) Via.refl e0 S_PROPERTY_LIST (g := (mkF m 89 #[.val (.int (9 : Int32))] [])) rfl (hb hby d0_89)
  obtain ⟨fs, hr, hrun, hended, hW, hsame⟩ := X1.leave (v := some (.ref s_PROPERTY_LIST)) (fun h => by rw [Bd.returns] at h; cases h)
  refine ⟨_, _, pre0 _ ?_, hrun, hended, _, _, rfl, ?_, ⟨_, rfl⟩, hW, hsame.mono (by decide) (by decide)⟩
  · show Steps p.tables e below (s₁.setTop (mkF m 0 #[.val (.int (9 : Int32))] [])) _
    refine XS.iloadN X0.here hx rfl (hb hby d0_0) rfl ?_
    show Steps p.tables e below (s₁.setTop (mkF m 1 #[.val (.int (9 : Int32))] [(.int (9 : Int32))])) _
    refine XS.ifYes X0.here hx rfl (pc0 := 1) (pc' := 8) rfl (hb hby d0_1) rfl (by decide +kernel) (by decide) (by decide) ?_
    show Steps p.tables e below (s₁.setTop (mkF m 8 #[.val (.int (9 : Int32))] [])) _
    refine XS.iloadN X0.here hx rfl (hb hby d0_8) rfl ?_
    show Steps p.tables e below (s₁.setTop (mkF m 9 #[.val (.int (9 : Int32))] [(.int (9 : Int32))])) _
    refine XS.iconst X0.here hx rfl (hb hby d0_9) ?_
    show Steps p.tables e below (s₁.setTop (mkF m 10 #[.val (.int (9 : Int32))] [(.int (1 : Int32)), (.int (9 : Int32))])) _
    refine XS.icmpYes X0.here hx rfl (pc0 := 10) (pc' := 17) rfl (hb hby d0_10) rfl (by decide +kernel) (by decide) (by decide) ?_
    show Steps p.tables e below (s₁.setTop (mkF m 17 #[.val (.int (9 : Int32))] [])) _
    refine XS.iloadN X0.here hx rfl (hb hby d0_17) rfl ?_
    show Steps p.tables e below (s₁.setTop (mkF m 18 #[.val (.int (9 : Int32))] [(.int (9 : Int32))])) _
    refine XS.iconst X0.here hx rfl (hb hby d0_18) ?_
    show Steps p.tables e below (s₁.setTop (mkF m 19 #[.val (.int (9 : Int32))] [(.int (2 : Int32)), (.int (9 : Int32))])) _
    refine XS.icmpYes X0.here hx rfl (pc0 := 19) (pc' := 26) rfl (hb hby d0_19) rfl (by decide +kernel) (by decide) (by decide) ?_
    show Steps p.tables e below (s₁.setTop (mkF m 26 #[.val (.int (9 : Int32))] [])) _
    refine XS.iloadN X0.here hx rfl (hb hby d0_26) rfl ?_
    show Steps p.tables e below (s₁.setTop (mkF m 27 #[.val (.int (9 : Int32))] [(.int (9 : Int32))])) _
    refine XS.iconst X0.here hx rfl (hb hby d0_27) ?_
    show Steps p.tables e below (s₁.setTop (mkF m 28 #[.val (.int (9 : Int32))] [(.int (3 : Int32)), (.int (9 : Int32))])) _
    refine XS.icmpYes X0.here hx rfl (pc0 := 28) (pc' := 35) rfl (hb hby d0_28) rfl (by decide +kernel) (by decide) (by decide) ?_
    show Steps p.tables e below (s₁.setTop (mkF m 35 #[.val (.int (9 : Int32))] [])) _
    refine XS.iloadN X0.here hx rfl (hb hby d0_35) rfl ?_
    show Steps p.tables e below (s₁.setTop (mkF m 36 #[.val (.int (9 : Int32))] [(.int (9 : Int32))])) _
    refine XS.iconst X0.here hx rfl (hb hby d0_36) ?_
    show Steps p.tables e below (s₁.setTop (mkF m 37 #[.val (.int (9 : Int32))] [(.int (4 : Int32)), (.int (9 : Int32))])) _
    refine XS.icmpYes X0.here hx rfl (pc0 := 37) (pc' := 44) rfl (hb hby d0_37) rfl (by decide +kernel) (by decide) (by decide) ?_
    show Steps p.tables e below (s₁.setTop (mkF m 44 #[.val (.int (9 : Int32))] [])) _
    refine XS.iloadN X0.here hx rfl (hb hby d0_44) rfl ?_
    show Steps p.tables e below (s₁.setTop (mkF m 45 #[.val (.int (9 : Int32))] [(.int (9 : Int32))])) _
    refine XS.iconst X0.here hx rfl (hb hby d0_45) ?_
    show Steps p.tables e below (s₁.setTop (mkF m 46 #[.val (.int (9 : Int32))] [(.int (5 : Int32)), (.int (9 : Int32))])) _
    refine XS.icmpYes X0.here hx rfl (pc0 := 46) (pc' := 53) rfl (hb hby d0_46) rfl (by decide +kernel) (by decide) (by decide) ?_
    show Steps p.tables e below (s₁.setTop (mkF m 53 #[.val (.int (9 : Int32))] [])) _
    refine XS.iloadN X0.here hx rfl (hb hby d0_53) rfl ?_
    show Steps p.tables e below (s₁.setTop (mkF m 54 #[.val (.int (9 : Int32))] [(.int (9 : Int32))])) _
    refine XS.bipush X0.here hx rfl (hb hby d0_54) ?_
    show Steps p.tables e below (s₁.setTop (mkF m 56 #[.val (.int (9 : Int32))] [(.int (6 : Int32)), (.int (9 : Int32))])) _
    refine XS.icmpYes X0.here hx rfl (pc0 := 56) (pc' := 63) rfl (hb hby d0_56) rfl (by decide +kernel) (by decide) (by decide) ?_
    show Steps p.tables e below (s₁.setTop (mkF m 63 #[.val (.int (9 : Int32))] [])) _
    refine XS.iloadN X0.here hx rfl (hb hby d0_63) rfl ?_
    show Steps p.tables e below (s₁.setTop (mkF m 64 #[.val (.int (9 : Int32))] [(.int (9 : Int32))])) _
    refine XS.bipush X0.here hx rfl (hb hby d0_64) ?_
    show Steps p.tables e below (s₁.setTop (mkF m 66 #[.val (.int (9 : Int32))] [(.int (7 : Int32)), (.int (9 : Int32))])) _
    refine XS.icmpYes X0.here hx rfl (pc0 := 66) (pc' := 73) rfl (hb hby d0_66) rfl (by decide +kernel) (by decide) (by decide) ?_
    show Steps p.tables e below (s₁.setTop (mkF m 73 #[.val (.int (9 : Int32))] [])) _
    refine XS.iloadN X0.here hx rfl (hb hby d0_73) rfl ?_
    show Steps p.tables e below (s₁.setTop (mkF m 74 #[.val (.int (9 : Int32))] [(.int (9 : Int32))])) _
    refine XS.bipush X0.here hx rfl (hb hby d0_74) ?_
    show Steps p.tables e below (s₁.setTop (mkF m 76 #[.val (.int (9 : Int32))] [(.int (8 : Int32)), (.int (9 : Int32))])) _
    refine XS.icmpYes X0.here hx rfl (pc0 := 76) (pc' := 83) rfl (hb hby d0_76) rfl (by decide +kernel) (by decide) (by decide) ?_
    show Steps p.tables e below (s₁.setTop (mkF m 83 #[.val (.int (9 : Int32))] [])) _
    refine XS.iloadN X0.here hx rfl (hb hby d0_83) rfl ?_
    show Steps p.tables e below (s₁.setTop (mkF m 84 #[.val (.int (9 : Int32))] [(.int (9 : Int32))])) _
    refine XS.bipush X0.here hx rfl (hb hby d0_84) ?_
    show Steps p.tables e below (s₁.setTop (mkF m 86 #[.val (.int (9 : Int32))] [(.int (9 : Int32)), (.int (9 : Int32))])) _
    refine XS.icmpNo X0.here hx rfl (hb hby d0_86) rfl (by decide +kernel) ?_
    show Steps p.tables e below (s₁.setTop (mkF m 89 #[.val (.int (9 : Int32))] [])) _
    refine st1 _ ?_
    show Steps p.tables e below (T1.setTop (mkF m 92 #[.val (.int (9 : Int32))] [(.ref s_PROPERTY_LIST)])) _
    exact retOut X1 hx (i := .areturn) Bd.returns rfl (Or.inr (Or.inr (Or.inr (Or.inr ⟨rfl, rfl, rfl⟩)))) (hb hby d0_92) hr
  · exact ⟨rfl, N0, e1⟩
set_option maxRecDepth 65536 in
set_option maxHeartbeats 40000000 in
theorem r37 (l : Launch) (Z : State) (a0 : Array Value) (hw : ∀ d ∈ tables_1, d.before a0 Z = true) (ws : List Jvm.Cond) (h0 : Heap) (n0 : Nat) (s_NO_OP : Addr) (s_END_OF_CONSTRUCTOR : Addr) (s_ASCII_STRING : Addr) (s_BOOLEAN : Addr) (s_UNIQUE_ID : Addr) (s_SEQUENCE : Addr) (s_SET : Addr) (s_INTEGER : Addr) (s_PADDING : Addr) (s_PROPERTY_LIST : Addr) (s_DATE : Addr) (s_BIT_STRING : Addr) (t_BIT_STRING_qualifierTag : Addr) (s_PROPERTY : Addr) (s_FIELD : Addr) (t_FIELD_qualifierTag : Addr) (s_COMPRESSED : Addr) (s_ENCRYPTED : Addr) (t_ENCRYPTED_qualifierTag : Addr) (s_MESSAGE : Addr) (t_MESSAGE_qualifierTag : Addr) (s_EXTENSION : Addr) (s_VENDOR_DEFINED : Addr) (K : Ctx Z h0 s_NO_OP s_END_OF_CONSTRUCTOR s_ASCII_STRING s_BOOLEAN s_UNIQUE_ID s_SEQUENCE s_SET s_INTEGER s_PADDING s_PROPERTY_LIST s_DATE s_BIT_STRING t_BIT_STRING_qualifierTag s_PROPERTY s_FIELD t_FIELD_qualifierTag s_COMPRESSED s_ENCRYPTED t_ENCRYPTED_qualifierTag s_MESSAGE t_MESSAGE_qualifierTag s_EXTENSION s_VENDOR_DEFINED) :
    MetFree l (⟨"com/example/plainwire/plainwire/rfc806/Element", "qualified", "()Z"⟩ : MethodName) (head1 (Jvm.Cond.code (⟨"com/example/plainwire/plainwire/rfc806/Element", "qualified", "()Z"⟩ : MethodName) prog_101_method_9_code 1 (some .boolean) :: ws) ({ frames := 0, cells := 0, slots := 0, locals := 0 } : Room)) (fun a U => a = #[(.ref s_PROPERTY_LIST)] ∧ Z.Warmed39 U.vm ∧ U.heap = h0) (fun _ _ _ _ _ => True) (fun _ U o U' => ∃ v L, o = .returned v ∧ QV (.int (0 : Int32)) h0 n0 v U'.heap L ∧ FrameEnd U o U' L ({ frames := 0, cells := 0, slots := 0, locals := 0 } : Room).cells ({ frames := 0, cells := 0, slots := 0, locals := 0 } : Room).slots) := by
  obtain ⟨S_NO_OP, F_NO_OP_code, E_NO_OP, F_NO_OP_qualifierTag, S_END_OF_CONSTRUCTOR, F_END_OF_CONSTRUCTOR_code, E_END_OF_CONSTRUCTOR, F_END_OF_CONSTRUCTOR_qualifierTag, S_ASCII_STRING, F_ASCII_STRING_code, E_ASCII_STRING, F_ASCII_STRING_qualifierTag, S_BOOLEAN, F_BOOLEAN_code, E_BOOLEAN, F_BOOLEAN_qualifierTag, S_UNIQUE_ID, F_UNIQUE_ID_code, E_UNIQUE_ID, F_UNIQUE_ID_qualifierTag, S_SEQUENCE, F_SEQUENCE_code, E_SEQUENCE, F_SEQUENCE_qualifierTag, S_SET, F_SET_code, E_SET, F_SET_qualifierTag, S_INTEGER, F_INTEGER_code, E_INTEGER, F_INTEGER_qualifierTag, S_PADDING, F_PADDING_code, E_PADDING, F_PADDING_qualifierTag, S_PROPERTY_LIST, F_PROPERTY_LIST_code, E_PROPERTY_LIST, F_PROPERTY_LIST_qualifierTag, S_DATE, F_DATE_code, E_DATE, F_DATE_qualifierTag, S_BIT_STRING, F_BIT_STRING_code, E_BIT_STRING, F_BIT_STRING_qualifierTag, S_PROPERTY, F_PROPERTY_code, E_PROPERTY, F_PROPERTY_qualifierTag, S_COMPRESSED, F_COMPRESSED_code, E_COMPRESSED, F_COMPRESSED_qualifierTag, S_ENCRYPTED, F_ENCRYPTED_code, E_ENCRYPTED, F_ENCRYPTED_qualifierTag, S_FIELD, F_FIELD_code, E_FIELD, F_FIELD_qualifierTag, S_MESSAGE, F_MESSAGE_code, E_MESSAGE, F_MESSAGE_qualifierTag, S_EXTENSION, F_EXTENSION_code, E_EXTENSION, F_EXTENSION_qualifierTag, S_VENDOR_DEFINED, F_VENDOR_DEFINED_code, E_VENDOR_DEFINED, F_VENDOR_DEFINED_qualifierTag⟩ := id K
  refine MetFree.of_bodySF (plainFor_of_name pn1) hisR ?_
  intro p e s m args below meth c s₁ Bd hml0 hP hK
  obtain ⟨rfl, hZ, hh⟩ := hP
  have hx := Bd.exec
  have hby := Bd.bytes
  have hml : c.maxLocals = 1 := hml0
  have hown : s.vm.findClass "com/example/plainwire/plainwire/rfc806/Element" = some m.cls := findClass_of_methodNamed Bd.named
  have X0 : Stand p l e ({ frames := 0, cells := 0, slots := 0, locals := 0 } : Room) s m #[(.ref s_PROPERTY_LIST)] below meth c s₁ [] 0 0 := Stand.of_body Bd
  have e0 : s₁.heap = h0 := by rw [← hh, Bd.state]; rfl
  have N0 := Fr.nil n0
  have pre0 : ∀ t, Steps p.tables e below (s₁.setTop (mkF m 0 #[.val (.ref s_PROPERTY_LIST)] [])) t → Steps p.tables e below (s₁.setTop (entryFrame m #[(.ref s_PROPERTY_LIST)] 1)) t := fun t k => castTop (by first | (simp [entryFrame, mkF, argsToLocals, Value.category]; done) | rfl) k
  obtain ⟨T1, X1, e1, st1⟩ := getF X0 hx hZ hown (host := "") (Or.inl (hw _ (List.mem_of_getElem? (i := 13) rfl))) Via.refl e0 F_PROPERTY_LIST_code (g := (mkF m 1 #[.val (.ref s_PROPERTY_LIST)] [(.ref s_PROPERTY_LIST)])) rfl rfl (hb hby d1_1)
  obtain ⟨fs, hr, hrun, hended, hW, hsame⟩ := X1.leave (v := some (.int (0 : Int32))) (fun h => by rw [Bd.returns] at h; cases h)
  refine ⟨_, _, pre0 _ ?_, hrun, hended, _, _, rfl, ?_, ⟨_, rfl⟩, hW, hsame.mono (by decide) (by decide)⟩
  · show Steps p.tables e below (s₁.setTop (mkF m 0 #[.val (.ref s_PROPERTY_LIST)] [])) _
    refine XS.aloadN X0.here hx rfl (hb hby d1_0) rfl rfl ?_
    show Steps p.tables e below (s₁.setTop (mkF m 1 #[.val (.ref s_PROPERTY_LIST)] [(.ref s_PROPERTY_LIST)])) _
    refine st1 _ ?_
    show Steps p.tables e below (T1.setTop (mkF m 4 #[.val (.ref s_PROPERTY_LIST)] [(.int (36 : Int32))])) _
    refine XS.bipush X1.here hx rfl (hb hby d1_4) ?_
    show Steps p.tables e below (T1.setTop (mkF m 6 #[.val (.ref s_PROPERTY_LIST)] [(.int (64 : Int32)), (.int (36 : Int32))])) _
    refine XS.iand X1.here hx rfl (hb hby d1_6) rfl ?_
    show Steps p.tables e below (T1.setTop (mkF m 7 #[.val (.ref s_PROPERTY_LIST)] [(.int ((36 : Int32) &&& (64 : Int32)))])) _
    rw [show ((36 : Int32) &&& (64 : Int32)) = (0 : Int32) from by decide +kernel]
    show Steps p.tables e below (T1.setTop (mkF m 7 #[.val (.ref s_PROPERTY_LIST)] [(.int (0 : Int32))])) _
    refine XS.ifYes X1.here hx rfl (pc0 := 7) (pc' := 14) rfl (hb hby d1_7) rfl (by decide +kernel) (by decide) (by decide) ?_
    show Steps p.tables e below (T1.setTop (mkF m 14 #[.val (.ref s_PROPERTY_LIST)] [])) _
    refine XS.iconst X1.here hx rfl (hb hby d1_14) ?_
    show Steps p.tables e below (T1.setTop (mkF m 15 #[.val (.ref s_PROPERTY_LIST)] [(.int (0 : Int32))])) _
    exact retN X1 hx (t := .boolean) Bd.returns (by simp) (hb hby d1_15) hr
  · exact ⟨rfl, N0, e1⟩
set_option maxRecDepth 65536 in
set_option maxHeartbeats 40000000 in
theorem r38 (l : Launch) (Z : State) (a0 : Array Value) (hw : ∀ d ∈ tables_1, d.before a0 Z = true) (ws : List Jvm.Cond) (h0 : Heap) (n0 : Nat) (s_NO_OP : Addr) (s_END_OF_CONSTRUCTOR : Addr) (s_ASCII_STRING : Addr) (s_BOOLEAN : Addr) (s_UNIQUE_ID : Addr) (s_SEQUENCE : Addr) (s_SET : Addr) (s_INTEGER : Addr) (s_PADDING : Addr) (s_PROPERTY_LIST : Addr) (s_DATE : Addr) (s_BIT_STRING : Addr) (t_BIT_STRING_qualifierTag : Addr) (s_PROPERTY : Addr) (s_FIELD : Addr) (t_FIELD_qualifierTag : Addr) (s_COMPRESSED : Addr) (s_ENCRYPTED : Addr) (t_ENCRYPTED_qualifierTag : Addr) (s_MESSAGE : Addr) (t_MESSAGE_qualifierTag : Addr) (s_EXTENSION : Addr) (s_VENDOR_DEFINED : Addr) (K : Ctx Z h0 s_NO_OP s_END_OF_CONSTRUCTOR s_ASCII_STRING s_BOOLEAN s_UNIQUE_ID s_SEQUENCE s_SET s_INTEGER s_PADDING s_PROPERTY_LIST s_DATE s_BIT_STRING t_BIT_STRING_qualifierTag s_PROPERTY s_FIELD t_FIELD_qualifierTag s_COMPRESSED s_ENCRYPTED t_ENCRYPTED_qualifierTag s_MESSAGE t_MESSAGE_qualifierTag s_EXTENSION s_VENDOR_DEFINED) :
    MetFree l (⟨"com/example/plainwire/plainwire/rfc806/Element", "qualifierTag", "()Ljava/lang/String;"⟩ : MethodName) (head1 (Jvm.Cond.code (⟨"com/example/plainwire/plainwire/rfc806/Element", "qualifierTag", "()Ljava/lang/String;"⟩ : MethodName) prog_101_method_10_code 1 (some (.object "java/lang/String")) :: ws) ({ frames := 0, cells := 0, slots := 0, locals := 0 } : Room)) (fun a U => a = #[(.ref s_PROPERTY_LIST)] ∧ Z.Warmed39 U.vm ∧ U.heap = h0) (fun _ _ _ _ _ => True) (fun _ U o U' => ∃ v L, o = .returned v ∧ QV .null h0 n0 v U'.heap L ∧ FrameEnd U o U' L ({ frames := 0, cells := 0, slots := 0, locals := 0 } : Room).cells ({ frames := 0, cells := 0, slots := 0, locals := 0 } : Room).slots) := by
  obtain ⟨S_NO_OP, F_NO_OP_code, E_NO_OP, F_NO_OP_qualifierTag, S_END_OF_CONSTRUCTOR, F_END_OF_CONSTRUCTOR_code, E_END_OF_CONSTRUCTOR, F_END_OF_CONSTRUCTOR_qualifierTag, S_ASCII_STRING, F_ASCII_STRING_code, E_ASCII_STRING, F_ASCII_STRING_qualifierTag, S_BOOLEAN, F_BOOLEAN_code, E_BOOLEAN, F_BOOLEAN_qualifierTag, S_UNIQUE_ID, F_UNIQUE_ID_code, E_UNIQUE_ID, F_UNIQUE_ID_qualifierTag, S_SEQUENCE, F_SEQUENCE_code, E_SEQUENCE, F_SEQUENCE_qualifierTag, S_SET, F_SET_code, E_SET, F_SET_qualifierTag, S_INTEGER, F_INTEGER_code, E_INTEGER, F_INTEGER_qualifierTag, S_PADDING, F_PADDING_code, E_PADDING, F_PADDING_qualifierTag, S_PROPERTY_LIST, F_PROPERTY_LIST_code, E_PROPERTY_LIST, F_PROPERTY_LIST_qualifierTag, S_DATE, F_DATE_code, E_DATE, F_DATE_qualifierTag, S_BIT_STRING, F_BIT_STRING_code, E_BIT_STRING, F_BIT_STRING_qualifierTag, S_PROPERTY, F_PROPERTY_code, E_PROPERTY, F_PROPERTY_qualifierTag, S_COMPRESSED, F_COMPRESSED_code, E_COMPRESSED, F_COMPRESSED_qualifierTag, S_ENCRYPTED, F_ENCRYPTED_code, E_ENCRYPTED, F_ENCRYPTED_qualifierTag, S_FIELD, F_FIELD_code, E_FIELD, F_FIELD_qualifierTag, S_MESSAGE, F_MESSAGE_code, E_MESSAGE, F_MESSAGE_qualifierTag, S_EXTENSION, F_EXTENSION_code, E_EXTENSION, F_EXTENSION_qualifierTag, S_VENDOR_DEFINED, F_VENDOR_DEFINED_code, E_VENDOR_DEFINED, F_VENDOR_DEFINED_qualifierTag⟩ := id K
  refine MetFree.of_bodySF (plainFor_of_name pn2) hisR ?_
  intro p e s m args below meth c s₁ Bd hml0 hP hK
  obtain ⟨rfl, hZ, hh⟩ := hP
  have hx := Bd.exec
  have hby := Bd.bytes
  have hml : c.maxLocals = 1 := hml0
  have hown : s.vm.findClass "com/example/plainwire/plainwire/rfc806/Element" = some m.cls := findClass_of_methodNamed Bd.named
  have X0 : Stand p l e ({ frames := 0, cells := 0, slots := 0, locals := 0 } : Room) s m #[(.ref s_PROPERTY_LIST)] below meth c s₁ [] 0 0 := Stand.of_body Bd
  have e0 : s₁.heap = h0 := by rw [← hh, Bd.state]; rfl
  have N0 := Fr.nil n0
  have pre0 : ∀ t, Steps p.tables e below (s₁.setTop (mkF m 0 #[.val (.ref s_PROPERTY_LIST)] [])) t → Steps p.tables e below (s₁.setTop (entryFrame m #[(.ref s_PROPERTY_LIST)] 1)) t := fun t k => castTop (by first | (simp [entryFrame, mkF, argsToLocals, Value.category]; done) | rfl) k
  obtain ⟨T1, X1, e1, st1⟩ := getF X0 hx hZ hown (host := "") (Or.inl (hw _ (List.mem_of_getElem? (i := 20) rfl))) Via.refl e0 F_PROPERTY_LIST_qualifierTag (g := (mkF m 1 #[.val (.ref s_PROPERTY_LIST)] [(.ref s_PROPERTY_LIST)])) rfl rfl (hb hby d2_1)
  obtain ⟨fs, hr, hrun, hended, hW, hsame⟩ := X1.leave (v := some .null) (fun h => by rw [Bd.returns] at h; cases h)
  refine ⟨_, _, pre0 _ ?_, hrun, hended, _, _, rfl, ?_, ⟨_, rfl⟩, hW, hsame.mono (by decide) (by decide)⟩
  · show Steps p.tables e below (s₁.setTop (mkF m 0 #[.val (.ref s_PROPERTY_LIST)] [])) _
    refine XS.aloadN X0.here hx rfl (hb hby d2_0) rfl rfl ?_
    show Steps p.tables e below (s₁.setTop (mkF m 1 #[.val (.ref s_PROPERTY_LIST)] [(.ref s_PROPERTY_LIST)])) _
    refine st1 _ ?_
    show Steps p.tables e below (T1.setTop (mkF m 4 #[.val (.ref s_PROPERTY_LIST)] [.null])) _
    exact retOut X1 hx (i := .areturn) Bd.returns rfl (Or.inr (Or.inr (Or.inr (Or.inr ⟨rfl, rfl, rfl⟩)))) (hb hby d2_4) hr
  · exact ⟨rfl, N0, e1⟩
set_option maxRecDepth 65536 in
set_option maxHeartbeats 40000000 in
theorem law_k9 (l : Launch) (Z : State) (a0 : Array Value) (hw : ∀ d ∈ tables_1, d.before a0 Z = true) (ws : List Jvm.Cond) (h0 : Heap) (n0 : Nat) (s_NO_OP : Addr) (s_END_OF_CONSTRUCTOR : Addr) (s_ASCII_STRING : Addr) (s_BOOLEAN : Addr) (s_UNIQUE_ID : Addr) (s_SEQUENCE : Addr) (s_SET : Addr) (s_INTEGER : Addr) (s_PADDING : Addr) (s_PROPERTY_LIST : Addr) (s_DATE : Addr) (s_BIT_STRING : Addr) (t_BIT_STRING_qualifierTag : Addr) (s_PROPERTY : Addr) (s_FIELD : Addr) (t_FIELD_qualifierTag : Addr) (s_COMPRESSED : Addr) (s_ENCRYPTED : Addr) (t_ENCRYPTED_qualifierTag : Addr) (s_MESSAGE : Addr) (t_MESSAGE_qualifierTag : Addr) (s_EXTENSION : Addr) (s_VENDOR_DEFINED : Addr) (K : Ctx Z h0 s_NO_OP s_END_OF_CONSTRUCTOR s_ASCII_STRING s_BOOLEAN s_UNIQUE_ID s_SEQUENCE s_SET s_INTEGER s_PADDING s_PROPERTY_LIST s_DATE s_BIT_STRING t_BIT_STRING_qualifierTag s_PROPERTY s_FIELD t_FIELD_qualifierTag s_COMPRESSED s_ENCRYPTED t_ENCRYPTED_qualifierTag s_MESSAGE t_MESSAGE_qualifierTag s_EXTENSION s_VENDOR_DEFINED) (p0 : Int32) (hp0 : ((p0 &&& (2147483647 : Int32)) % (19 : Int32)) = (9 : Int32)) :
    MetFree l x (head1 (Jvm.Cond.code x code maxLocals ret :: ws) room_1) (fun a U => a = #[(.int p0)] ∧ Z.Warmed39 U.vm ∧ U.heap = h0) (fun _ _ _ _ _ => True) (fun _ U o U' => ∃ v L, o = .returned v ∧ QV (.int (1 : Int32)) h0 n0 v U'.heap L ∧ FrameEnd U o U' L room_1.cells room_1.slots) := by
  obtain ⟨S_NO_OP, F_NO_OP_code, E_NO_OP, F_NO_OP_qualifierTag, S_END_OF_CONSTRUCTOR, F_END_OF_CONSTRUCTOR_code, E_END_OF_CONSTRUCTOR, F_END_OF_CONSTRUCTOR_qualifierTag, S_ASCII_STRING, F_ASCII_STRING_code, E_ASCII_STRING, F_ASCII_STRING_qualifierTag, S_BOOLEAN, F_BOOLEAN_code, E_BOOLEAN, F_BOOLEAN_qualifierTag, S_UNIQUE_ID, F_UNIQUE_ID_code, E_UNIQUE_ID, F_UNIQUE_ID_qualifierTag, S_SEQUENCE, F_SEQUENCE_code, E_SEQUENCE, F_SEQUENCE_qualifierTag, S_SET, F_SET_code, E_SET, F_SET_qualifierTag, S_INTEGER, F_INTEGER_code, E_INTEGER, F_INTEGER_qualifierTag, S_PADDING, F_PADDING_code, E_PADDING, F_PADDING_qualifierTag, S_PROPERTY_LIST, F_PROPERTY_LIST_code, E_PROPERTY_LIST, F_PROPERTY_LIST_qualifierTag, S_DATE, F_DATE_code, E_DATE, F_DATE_qualifierTag, S_BIT_STRING, F_BIT_STRING_code, E_BIT_STRING, F_BIT_STRING_qualifierTag, S_PROPERTY, F_PROPERTY_code, E_PROPERTY, F_PROPERTY_qualifierTag, S_COMPRESSED, F_COMPRESSED_code, E_COMPRESSED, F_COMPRESSED_qualifierTag, S_ENCRYPTED, F_ENCRYPTED_code, E_ENCRYPTED, F_ENCRYPTED_qualifierTag, S_FIELD, F_FIELD_code, E_FIELD, F_FIELD_qualifierTag, S_MESSAGE, F_MESSAGE_code, E_MESSAGE, F_MESSAGE_qualifierTag, S_EXTENSION, F_EXTENSION_code, E_EXTENSION, F_EXTENSION_qualifierTag, S_VENDOR_DEFINED, F_VENDOR_DEFINED_code, E_VENDOR_DEFINED, F_VENDOR_DEFINED_qualifierTag⟩ := id K
  refine MetFree.of_bodySF (plainFor_of_name pn3) hisR ?_
  intro p e s m args below meth c s₁ Bd hml0 hP hK
  obtain ⟨rfl, hZ, hh⟩ := hP
  have hx := Bd.exec
  have hby := Bd.bytes
  have hml : c.maxLocals = 6 := hml0
  have hown : s.vm.findClass "com/example/plainwire/plainwire/rfc806/ElementQualifiedPinLaw" = some m.cls := findClass_of_methodNamed Bd.named
  have X0 : Stand p l e room_1 s m #[(.int p0)] below meth c s₁ [] 0 0 := Stand.of_body Bd
  have e0 : s₁.heap = h0 := by rw [← hh, Bd.state]; rfl
  have N0 := Fr.nil n0
  have pre0 : ∀ t, Steps p.tables e below (s₁.setTop (mkF m 0 #[.val (.int p0), .unset, .unset, .unset, .unset, .unset] [])) t → Steps p.tables e below (s₁.setTop (entryFrame m #[(.int p0)] maxLocals)) t := fun t k => castTop (by first | (simp [entryFrame, mkF, argsToLocals, Value.category, maxLocals]; done) | rfl) k
  obtain ⟨_, _, ⟨T1, L1, k1, n1⟩, -, X1, ⟨Lc1, hQ1, l1, y1, z1⟩, st1⟩ := Jvm.LawKit.callS X0 hx (y := (⟨"com/example/plainwire/plainwire/rfc806/ElementQualifiedPinLaw", "pick", "(I)Lcom/example/plainwire/plainwire/rfc806/Element;"⟩ : MethodName)) hown (mvT hZ (hw _ (List.mem_of_getElem? (i := 1) rfl))) (mvT hZ (hw _ (List.mem_of_getElem? (i := 2) rfl))) (mvT hZ (hw _ (List.mem_of_getElem? (i := 3) rfl))) (mvT hZ (hw _ (List.mem_of_getElem? (i := 4) rfl))) (by decide) (backOf (W := 0) (r36 l Z a0 hw [] h0 n0 s_NO_OP s_END_OF_CONSTRUCTOR s_ASCII_STRING s_BOOLEAN s_UNIQUE_ID s_SEQUENCE s_SET s_INTEGER s_PADDING s_PROPERTY_LIST s_DATE s_BIT_STRING t_BIT_STRING_qualifierTag s_PROPERTY s_FIELD t_FIELD_qualifierTag s_COMPRESSED s_ENCRYPTED t_ENCRYPTED_qualifierTag s_MESSAGE t_MESSAGE_qualifierTag s_EXTENSION s_VENDOR_DEFINED K) hZ (hw _ (List.mem_of_getElem? (i := 4) rfl)) (hw _ (List.mem_of_getElem? (i := 3) rfl)) (by decide) (by decide)) (g := (mkF m 9 #[.val (.int p0), .val (.int (9 : Int32)), .unset, .unset, .unset, .unset] [(.int (9 : Int32))])) rfl (by rw [hml]; rfl) (argsL := [(.int (9 : Int32))]) (rest := []) (lenOf pd0 rfl) rfl (by show 2 * 0 + _ ≤ _; exact Nat.le_of_eq rfl) (hb hby at_9) (fun _ _ => ⟨rfl, e0, (by decide : 0 + 0 ≤ _), (by decide : 0 + 0 ≤ _)⟩)
  dsimp only [Pt.U, Pt.locs, Pt.cells, Pt.slots] at X1 l1 y1 z1 st1 hQ1
  subst l1 y1 z1
  obtain ⟨rfl, N1q, e1⟩ := hQ1
  have N1 := Fr.app N0 N1q
  obtain ⟨cq2, kq2, q2a, q2b, q2c⟩ := isOf hZ e1 E_PROPERTY_LIST
  obtain ⟨_, _, ⟨T2, L2, k2, n2⟩, -, X2, ⟨Lc2, hQ2, l2, y2, z2⟩, st2⟩ := X1.virtualBack hx (y := (⟨"com/example/plainwire/plainwire/rfc806/Element", "qualified", "()Z"⟩ : MethodName)) (z := (⟨"com/example/plainwire/plainwire/rfc806/Element", "qualified", "()Z"⟩ : MethodName)) hown (mvT hZ (hw _ (List.mem_of_getElem? (i := 8) rfl))) (mvT hZ (hw _ (List.mem_of_getElem? (i := 9) rfl))) (notFace_of_selects (args := #[]) (mvT hZ (hw _ (List.mem_of_getElem? (i := 11) rfl)))) (mvT hZ (hw _ (List.mem_of_getElem? (i := 11) rfl))) (mvT hZ (hw _ (List.mem_of_getElem? (i := 10) rfl))) (by decide) (backOf (W := 0) (r37 l Z a0 hw [] h0 n0 s_NO_OP s_END_OF_CONSTRUCTOR s_ASCII_STRING s_BOOLEAN s_UNIQUE_ID s_SEQUENCE s_SET s_INTEGER s_PADDING s_PROPERTY_LIST s_DATE s_BIT_STRING t_BIT_STRING_qualifierTag s_PROPERTY s_FIELD t_FIELD_qualifierTag s_COMPRESSED s_ENCRYPTED t_ENCRYPTED_qualifierTag s_MESSAGE t_MESSAGE_qualifierTag s_EXTENSION s_VENDOR_DEFINED K) hZ (hw _ (List.mem_of_getElem? (i := 12) rfl)) (hw _ (List.mem_of_getElem? (i := 6) rfl)) (by decide) (by decide)) q2a q2c (g := (mkF m 26 #[.val (.int p0), .val (.int (9 : Int32)), .val (.ref s_PROPERTY_LIST), .val (.int (0 : Int32)), .unset, .unset] [(.ref s_PROPERTY_LIST)])) rfl (by rw [hml]; rfl) (Steps.refl _) (argsL := []) (rest := []) (lenOf pd1 rfl) rfl (by show 2 * 0 + _ ≤ _; exact Nat.le_of_eq rfl) (hb hby at_26) (fun _ _ => ⟨rfl, e1, (by decide : 0 + 0 ≤ _), (by decide : 0 + 0 ≤ _)⟩)
  dsimp only [Pt.U, Pt.locs, Pt.cells, Pt.slots] at X2 l2 y2 z2 st2 hQ2
  subst l2 y2 z2
  obtain ⟨rfl, N2q, e2⟩ := hQ2
  have N2 := Fr.app N1 N2q
  obtain ⟨cq3, kq3, q3a, q3b, q3c⟩ := isOf hZ e2 E_PROPERTY_LIST
  obtain ⟨_, _, ⟨T3, L3, k3, n3⟩, -, X3, ⟨Lc3, hQ3, l3, y3, z3⟩, st3⟩ := X2.virtualBack hx (y := (⟨"com/example/plainwire/plainwire/rfc806/Element", "qualifierTag", "()Ljava/lang/String;"⟩ : MethodName)) (z := (⟨"com/example/plainwire/plainwire/rfc806/Element", "qualifierTag", "()Ljava/lang/String;"⟩ : MethodName)) hown (mvT hZ (hw _ (List.mem_of_getElem? (i := 15) rfl))) (mvT hZ (hw _ (List.mem_of_getElem? (i := 16) rfl))) (notFace_of_selects (args := #[]) (mvT hZ (hw _ (List.mem_of_getElem? (i := 18) rfl)))) (mvT hZ (hw _ (List.mem_of_getElem? (i := 18) rfl))) (mvT hZ (hw _ (List.mem_of_getElem? (i := 17) rfl))) (by decide) (backOf (W := 0) (r38 l Z a0 hw [] h0 n0 s_NO_OP s_END_OF_CONSTRUCTOR s_ASCII_STRING s_BOOLEAN s_UNIQUE_ID s_SEQUENCE s_SET s_INTEGER s_PADDING s_PROPERTY_LIST s_DATE s_BIT_STRING t_BIT_STRING_qualifierTag s_PROPERTY s_FIELD t_FIELD_qualifierTag s_COMPRESSED s_ENCRYPTED t_ENCRYPTED_qualifierTag s_MESSAGE t_MESSAGE_qualifierTag s_EXTENSION s_VENDOR_DEFINED K) hZ (hw _ (List.mem_of_getElem? (i := 19) rfl)) (hw _ (List.mem_of_getElem? (i := 6) rfl)) (by decide) (by decide)) q3a q3c (g := (mkF m 32 #[.val (.int p0), .val (.int (9 : Int32)), .val (.ref s_PROPERTY_LIST), .val (.int (0 : Int32)), .val (.int (0 : Int32)), .unset] [(.ref s_PROPERTY_LIST)])) rfl (by rw [hml]; rfl) (Steps.refl _) (argsL := []) (rest := []) (lenOf pd2 rfl) rfl (by show 2 * 0 + _ ≤ _; exact Nat.le_of_eq rfl) (hb hby at_32) (fun _ _ => ⟨rfl, e2, (by decide : 0 + 0 ≤ _), (by decide : 0 + 0 ≤ _)⟩)
  dsimp only [Pt.U, Pt.locs, Pt.cells, Pt.slots] at X3 l3 y3 z3 st3 hQ3
  subst l3 y3 z3
  obtain ⟨rfl, N3q, e3⟩ := hQ3
  have N3 := Fr.app N2 N3q
  obtain ⟨fs, hr, hrun, hended, hW, hsame⟩ := X3.leave (v := some (.int (1 : Int32))) (fun h => by rw [Bd.returns] at h; cases h)
  refine ⟨_, _, pre0 _ ?_, hrun, hended, _, _, rfl, ?_, ⟨_, rfl⟩, hW, hsame.mono (by decide) (by decide)⟩
  · show Steps p.tables e below (s₁.setTop (mkF m 0 #[.val (.int p0), .unset, .unset, .unset, .unset, .unset] [])) _
    refine XS.iloadN X0.here hx rfl (hb hby at_0) rfl ?_
    show Steps p.tables e below (s₁.setTop (mkF m 1 #[.val (.int p0), .unset, .unset, .unset, .unset, .unset] [(.int p0)])) _
    refine X0.ldcInt hx hown (mvT hZ (hw _ (List.mem_of_getElem? (i := 0) rfl))) (g := (mkF m 1 #[.val (.int p0), .unset, .unset, .unset, .unset, .unset] [(.int p0)])) rfl (hb hby at_1) _ ?_
    show Steps p.tables e below (s₁.setTop (mkF m 3 #[.val (.int p0), .unset, .unset, .unset, .unset, .unset] [(.int (2147483647 : Int32)), (.int p0)])) _
    refine XS.iand X0.here hx rfl (hb hby at_3) rfl ?_
    show Steps p.tables e below (s₁.setTop (mkF m 4 #[.val (.int p0), .unset, .unset, .unset, .unset, .unset] [(.int (p0 &&& (2147483647 : Int32)))])) _
    refine XS.bipush X0.here hx rfl (hb hby at_4) ?_
    show Steps p.tables e below (s₁.setTop (mkF m 6 #[.val (.int p0), .unset, .unset, .unset, .unset, .unset] [(.int (19 : Int32)), (.int (p0 &&& (2147483647 : Int32)))])) _
    refine Jvm.RoadKit.iremM X0 hx rfl (hb hby at_6) rfl (by decide) ?_
    show Steps p.tables e below (s₁.setTop (mkF m 7 #[.val (.int p0), .unset, .unset, .unset, .unset, .unset] [(.int ((p0 &&& (2147483647 : Int32)) % (19 : Int32)))])) _
    rw [hp0]
    show Steps p.tables e below (s₁.setTop (mkF m 7 #[.val (.int p0), .unset, .unset, .unset, .unset, .unset] [(.int (9 : Int32))])) _
    refine XS.istoreN X0.here hx rfl (hb hby at_7) rfl (l' := #[.val (.int p0), .val (.int (9 : Int32)), .unset, .unset, .unset, .unset]) rfl ?_
    show Steps p.tables e below (s₁.setTop (mkF m 8 #[.val (.int p0), .val (.int (9 : Int32)), .unset, .unset, .unset, .unset] [])) _
    refine XS.iloadN X0.here hx rfl (hb hby at_8) rfl ?_
    show Steps p.tables e below (s₁.setTop (mkF m 9 #[.val (.int p0), .val (.int (9 : Int32)), .unset, .unset, .unset, .unset] [(.int (9 : Int32))])) _
    refine st1 _ ?_
    show Steps p.tables e below (T1.setTop (mkF m 12 #[.val (.int p0), .val (.int (9 : Int32)), .unset, .unset, .unset, .unset] [(.ref s_PROPERTY_LIST)])) _
    refine XS.astoreN X1.here hx rfl (hb hby at_12) rfl rfl (l' := #[.val (.int p0), .val (.int (9 : Int32)), .val (.ref s_PROPERTY_LIST), .unset, .unset, .unset]) rfl ?_
    show Steps p.tables e below (T1.setTop (mkF m 13 #[.val (.int p0), .val (.int (9 : Int32)), .val (.ref s_PROPERTY_LIST), .unset, .unset, .unset] [])) _
    refine XS.iloadN X1.here hx rfl (hb hby at_13) rfl ?_
    show Steps p.tables e below (T1.setTop (mkF m 14 #[.val (.int p0), .val (.int (9 : Int32)), .val (.ref s_PROPERTY_LIST), .unset, .unset, .unset] [(.int (9 : Int32))])) _
    refine XS.bipush X1.here hx rfl (hb hby at_14) ?_
    show Steps p.tables e below (T1.setTop (mkF m 16 #[.val (.int p0), .val (.int (9 : Int32)), .val (.ref s_PROPERTY_LIST), .unset, .unset, .unset] [(.int (11 : Int32)), (.int (9 : Int32))])) _
    refine XS.icmpYes X1.here hx rfl (pc0 := 16) (pc' := 23) rfl (hb hby at_16) rfl (by decide +kernel) (by decide) (by decide) ?_
    show Steps p.tables e below (T1.setTop (mkF m 23 #[.val (.int p0), .val (.int (9 : Int32)), .val (.ref s_PROPERTY_LIST), .unset, .unset, .unset] [])) _
    refine XS.iconst X1.here hx rfl (hb hby at_23) ?_
    show Steps p.tables e below (T1.setTop (mkF m 24 #[.val (.int p0), .val (.int (9 : Int32)), .val (.ref s_PROPERTY_LIST), .unset, .unset, .unset] [(.int (0 : Int32))])) _
    refine XS.istoreN X1.here hx rfl (hb hby at_24) rfl (l' := #[.val (.int p0), .val (.int (9 : Int32)), .val (.ref s_PROPERTY_LIST), .val (.int (0 : Int32)), .unset, .unset]) rfl ?_
    show Steps p.tables e below (T1.setTop (mkF m 25 #[.val (.int p0), .val (.int (9 : Int32)), .val (.ref s_PROPERTY_LIST), .val (.int (0 : Int32)), .unset, .unset] [])) _
    refine XS.aloadN X1.here hx rfl (hb hby at_25) rfl rfl ?_
    show Steps p.tables e below (T1.setTop (mkF m 26 #[.val (.int p0), .val (.int (9 : Int32)), .val (.ref s_PROPERTY_LIST), .val (.int (0 : Int32)), .unset, .unset] [(.ref s_PROPERTY_LIST)])) _
    refine st2.trans ?_
    show Steps p.tables e below (T2.setTop (mkF m 29 #[.val (.int p0), .val (.int (9 : Int32)), .val (.ref s_PROPERTY_LIST), .val (.int (0 : Int32)), .unset, .unset] [(.int (0 : Int32))])) _
    refine XS.istore X2.here hx rfl (hb hby at_29) rfl (l' := #[.val (.int p0), .val (.int (9 : Int32)), .val (.ref s_PROPERTY_LIST), .val (.int (0 : Int32)), .val (.int (0 : Int32)), .unset]) rfl ?_
    show Steps p.tables e below (T2.setTop (mkF m 31 #[.val (.int p0), .val (.int (9 : Int32)), .val (.ref s_PROPERTY_LIST), .val (.int (0 : Int32)), .val (.int (0 : Int32)), .unset] [])) _
    refine XS.aloadN X2.here hx rfl (hb hby at_31) rfl rfl ?_
    show Steps p.tables e below (T2.setTop (mkF m 32 #[.val (.int p0), .val (.int (9 : Int32)), .val (.ref s_PROPERTY_LIST), .val (.int (0 : Int32)), .val (.int (0 : Int32)), .unset] [(.ref s_PROPERTY_LIST)])) _
    refine st3.trans ?_
    show Steps p.tables e below (T3.setTop (mkF m 35 #[.val (.int p0), .val (.int (9 : Int32)), .val (.ref s_PROPERTY_LIST), .val (.int (0 : Int32)), .val (.int (0 : Int32)), .unset] [.null])) _
    refine XS.ifnullYes X3.here hx rfl (pc0 := 35) (pc' := 42) rfl (hb hby at_35) rfl (by decide) (by decide) ?_
    show Steps p.tables e below (T3.setTop (mkF m 42 #[.val (.int p0), .val (.int (9 : Int32)), .val (.ref s_PROPERTY_LIST), .val (.int (0 : Int32)), .val (.int (0 : Int32)), .unset] [])) _
    refine XS.iconst X3.here hx rfl (hb hby at_42) ?_
    show Steps p.tables e below (T3.setTop (mkF m 43 #[.val (.int p0), .val (.int (9 : Int32)), .val (.ref s_PROPERTY_LIST), .val (.int (0 : Int32)), .val (.int (0 : Int32)), .unset] [(.int (0 : Int32))])) _
    refine XS.istore X3.here hx rfl (hb hby at_43) rfl (l' := #[.val (.int p0), .val (.int (9 : Int32)), .val (.ref s_PROPERTY_LIST), .val (.int (0 : Int32)), .val (.int (0 : Int32)), .val (.int (0 : Int32))]) rfl ?_
    show Steps p.tables e below (T3.setTop (mkF m 45 #[.val (.int p0), .val (.int (9 : Int32)), .val (.ref s_PROPERTY_LIST), .val (.int (0 : Int32)), .val (.int (0 : Int32)), .val (.int (0 : Int32))] [])) _
    refine XS.iload X3.here hx rfl (hb hby at_45) rfl ?_
    show Steps p.tables e below (T3.setTop (mkF m 47 #[.val (.int p0), .val (.int (9 : Int32)), .val (.ref s_PROPERTY_LIST), .val (.int (0 : Int32)), .val (.int (0 : Int32)), .val (.int (0 : Int32))] [(.int (0 : Int32))])) _
    refine XS.iloadN X3.here hx rfl (hb hby at_47) rfl ?_
    show Steps p.tables e below (T3.setTop (mkF m 48 #[.val (.int p0), .val (.int (9 : Int32)), .val (.ref s_PROPERTY_LIST), .val (.int (0 : Int32)), .val (.int (0 : Int32)), .val (.int (0 : Int32))] [(.int (0 : Int32)), (.int (0 : Int32))])) _
    refine XS.icmpNo X3.here hx rfl (hb hby at_48) rfl (by decide +kernel) ?_
    show Steps p.tables e below (T3.setTop (mkF m 51 #[.val (.int p0), .val (.int (9 : Int32)), .val (.ref s_PROPERTY_LIST), .val (.int (0 : Int32)), .val (.int (0 : Int32)), .val (.int (0 : Int32))] [])) _
    refine XS.iload X3.here hx rfl (hb hby at_51) rfl ?_
    show Steps p.tables e below (T3.setTop (mkF m 53 #[.val (.int p0), .val (.int (9 : Int32)), .val (.ref s_PROPERTY_LIST), .val (.int (0 : Int32)), .val (.int (0 : Int32)), .val (.int (0 : Int32))] [(.int (0 : Int32))])) _
    refine XS.iload X3.here hx rfl (hb hby at_53) rfl ?_
    show Steps p.tables e below (T3.setTop (mkF m 55 #[.val (.int p0), .val (.int (9 : Int32)), .val (.ref s_PROPERTY_LIST), .val (.int (0 : Int32)), .val (.int (0 : Int32)), .val (.int (0 : Int32))] [(.int (0 : Int32)), (.int (0 : Int32))])) _
    refine XS.icmpNo X3.here hx rfl (hb hby at_55) rfl (by decide +kernel) ?_
    show Steps p.tables e below (T3.setTop (mkF m 58 #[.val (.int p0), .val (.int (9 : Int32)), .val (.ref s_PROPERTY_LIST), .val (.int (0 : Int32)), .val (.int (0 : Int32)), .val (.int (0 : Int32))] [])) _
    refine XS.iconst X3.here hx rfl (hb hby at_58) ?_
    show Steps p.tables e below (T3.setTop (mkF m 59 #[.val (.int p0), .val (.int (9 : Int32)), .val (.ref s_PROPERTY_LIST), .val (.int (0 : Int32)), .val (.int (0 : Int32)), .val (.int (0 : Int32))] [(.int (1 : Int32))])) _
    refine XS.goto X3.here hx rfl (pc0 := 59) (pc' := 63) rfl (hb hby at_59) (by decide) (by decide) ?_
    show Steps p.tables e below (T3.setTop (mkF m 63 #[.val (.int p0), .val (.int (9 : Int32)), .val (.ref s_PROPERTY_LIST), .val (.int (0 : Int32)), .val (.int (0 : Int32)), .val (.int (0 : Int32))] [(.int (1 : Int32))])) _
    exact retN X3 hx (t := .boolean) Bd.returns (by simp) (hb hby at_63) hr
  · exact ⟨rfl, N3, e3⟩
set_option maxRecDepth 65536 in
set_option maxHeartbeats 40000000 in
theorem r40 (l : Launch) (Z : State) (a0 : Array Value) (hw : ∀ d ∈ tables_1, d.before a0 Z = true) (ws : List Jvm.Cond) (h0 : Heap) (n0 : Nat) (s_NO_OP : Addr) (s_END_OF_CONSTRUCTOR : Addr) (s_ASCII_STRING : Addr) (s_BOOLEAN : Addr) (s_UNIQUE_ID : Addr) (s_SEQUENCE : Addr) (s_SET : Addr) (s_INTEGER : Addr) (s_PADDING : Addr) (s_PROPERTY_LIST : Addr) (s_DATE : Addr) (s_BIT_STRING : Addr) (t_BIT_STRING_qualifierTag : Addr) (s_PROPERTY : Addr) (s_FIELD : Addr) (t_FIELD_qualifierTag : Addr) (s_COMPRESSED : Addr) (s_ENCRYPTED : Addr) (t_ENCRYPTED_qualifierTag : Addr) (s_MESSAGE : Addr) (t_MESSAGE_qualifierTag : Addr) (s_EXTENSION : Addr) (s_VENDOR_DEFINED : Addr) (K : Ctx Z h0 s_NO_OP s_END_OF_CONSTRUCTOR s_ASCII_STRING s_BOOLEAN s_UNIQUE_ID s_SEQUENCE s_SET s_INTEGER s_PADDING s_PROPERTY_LIST s_DATE s_BIT_STRING t_BIT_STRING_qualifierTag s_PROPERTY s_FIELD t_FIELD_qualifierTag s_COMPRESSED s_ENCRYPTED t_ENCRYPTED_qualifierTag s_MESSAGE t_MESSAGE_qualifierTag s_EXTENSION s_VENDOR_DEFINED) :
    MetFree l (⟨"com/example/plainwire/plainwire/rfc806/ElementQualifiedPinLaw", "pick", "(I)Lcom/example/plainwire/plainwire/rfc806/Element;"⟩ : MethodName) (head1 (Jvm.Cond.code (⟨"com/example/plainwire/plainwire/rfc806/ElementQualifiedPinLaw", "pick", "(I)Lcom/example/plainwire/plainwire/rfc806/Element;"⟩ : MethodName) method_2_code 1 (some (.object "com/example/plainwire/plainwire/rfc806/Element")) :: ws) ({ frames := 0, cells := 0, slots := 0, locals := 0 } : Room)) (fun a U => a = #[(.int (10 : Int32))] ∧ Z.Warmed39 U.vm ∧ U.heap = h0) (fun _ _ _ _ _ => True) (fun _ U o U' => ∃ v L, o = .returned v ∧ QV (.ref s_DATE) h0 n0 v U'.heap L ∧ FrameEnd U o U' L ({ frames := 0, cells := 0, slots := 0, locals := 0 } : Room).cells ({ frames := 0, cells := 0, slots := 0, locals := 0 } : Room).slots) := by
  obtain ⟨S_NO_OP, F_NO_OP_code, E_NO_OP, F_NO_OP_qualifierTag, S_END_OF_CONSTRUCTOR, F_END_OF_CONSTRUCTOR_code, E_END_OF_CONSTRUCTOR, F_END_OF_CONSTRUCTOR_qualifierTag, S_ASCII_STRING, F_ASCII_STRING_code, E_ASCII_STRING, F_ASCII_STRING_qualifierTag, S_BOOLEAN, F_BOOLEAN_code, E_BOOLEAN, F_BOOLEAN_qualifierTag, S_UNIQUE_ID, F_UNIQUE_ID_code, E_UNIQUE_ID, F_UNIQUE_ID_qualifierTag, S_SEQUENCE, F_SEQUENCE_code, E_SEQUENCE, F_SEQUENCE_qualifierTag, S_SET, F_SET_code, E_SET, F_SET_qualifierTag, S_INTEGER, F_INTEGER_code, E_INTEGER, F_INTEGER_qualifierTag, S_PADDING, F_PADDING_code, E_PADDING, F_PADDING_qualifierTag, S_PROPERTY_LIST, F_PROPERTY_LIST_code, E_PROPERTY_LIST, F_PROPERTY_LIST_qualifierTag, S_DATE, F_DATE_code, E_DATE, F_DATE_qualifierTag, S_BIT_STRING, F_BIT_STRING_code, E_BIT_STRING, F_BIT_STRING_qualifierTag, S_PROPERTY, F_PROPERTY_code, E_PROPERTY, F_PROPERTY_qualifierTag, S_COMPRESSED, F_COMPRESSED_code, E_COMPRESSED, F_COMPRESSED_qualifierTag, S_ENCRYPTED, F_ENCRYPTED_code, E_ENCRYPTED, F_ENCRYPTED_qualifierTag, S_FIELD, F_FIELD_code, E_FIELD, F_FIELD_qualifierTag, S_MESSAGE, F_MESSAGE_code, E_MESSAGE, F_MESSAGE_qualifierTag, S_EXTENSION, F_EXTENSION_code, E_EXTENSION, F_EXTENSION_qualifierTag, S_VENDOR_DEFINED, F_VENDOR_DEFINED_code, E_VENDOR_DEFINED, F_VENDOR_DEFINED_qualifierTag⟩ := id K
  refine MetFree.of_bodySF (plainFor_of_name pn0) hisR ?_
  intro p e s m args below meth c s₁ Bd hml0 hP hK
  obtain ⟨rfl, hZ, hh⟩ := hP
  have hx := Bd.exec
  have hby := Bd.bytes
  have hml : c.maxLocals = 1 := hml0
  have hown : s.vm.findClass "com/example/plainwire/plainwire/rfc806/ElementQualifiedPinLaw" = some m.cls := findClass_of_methodNamed Bd.named
  have X0 : Stand p l e ({ frames := 0, cells := 0, slots := 0, locals := 0 } : Room) s m #[(.int (10 : Int32))] below meth c s₁ [] 0 0 := Stand.of_body Bd
  have e0 : s₁.heap = h0 := by rw [← hh, Bd.state]; rfl
  have N0 := Fr.nil n0
  have pre0 : ∀ t, Steps p.tables e below (s₁.setTop (mkF m 0 #[.val (.int (10 : Int32))] [])) t → Steps p.tables e below (s₁.setTop (entryFrame m #[(.int (10 : Int32))] 1)) t := fun t k => castTop (by first | (simp [entryFrame, mkF, argsToLocals, Value.category]; done) | rfl) k
  obtain ⟨T1, X1, e1, st1⟩ := getS X0 hx hZ hown (host := "") (hw _ (List.mem_of_getElem? (i := 36) rfl)) Via.refl e0 S_DATE (g := (mkF m 99 #[.val (.int (10 : Int32))] [])) rfl (hb hby d0_99)
  obtain ⟨fs, hr, hrun, hended, hW, hsame⟩ := X1.leave (v := some (.ref s_DATE)) (fun h => by rw [Bd.returns] at h; cases h)
  refine ⟨_, _, pre0 _ ?_, hrun, hended, _, _, rfl, ?_, ⟨_, rfl⟩, hW, hsame.mono (by decide) (by decide)⟩
  · show Steps p.tables e below (s₁.setTop (mkF m 0 #[.val (.int (10 : Int32))] [])) _
    refine XS.iloadN X0.here hx rfl (hb hby d0_0) rfl ?_
    show Steps p.tables e below (s₁.setTop (mkF m 1 #[.val (.int (10 : Int32))] [(.int (10 : Int32))])) _
    refine XS.ifYes X0.here hx rfl (pc0 := 1) (pc' := 8) rfl (hb hby d0_1) rfl (by decide +kernel) (by decide) (by decide) ?_
    show Steps p.tables e below (s₁.setTop (mkF m 8 #[.val (.int (10 : Int32))] [])) _
    refine XS.iloadN X0.here hx rfl (hb hby d0_8) rfl ?_
    show Steps p.tables e below (s₁.setTop (mkF m 9 #[.val (.int (10 : Int32))] [(.int (10 : Int32))])) _
    refine XS.iconst X0.here hx rfl (hb hby d0_9) ?_
    show Steps p.tables e below (s₁.setTop (mkF m 10 #[.val (.int (10 : Int32))] [(.int (1 : Int32)), (.int (10 : Int32))])) _
    refine XS.icmpYes X0.here hx rfl (pc0 := 10) (pc' := 17) rfl (hb hby d0_10) rfl (by decide +kernel) (by decide) (by decide) ?_
    show Steps p.tables e below (s₁.setTop (mkF m 17 #[.val (.int (10 : Int32))] [])) _
    refine XS.iloadN X0.here hx rfl (hb hby d0_17) rfl ?_
    show Steps p.tables e below (s₁.setTop (mkF m 18 #[.val (.int (10 : Int32))] [(.int (10 : Int32))])) _
    refine XS.iconst X0.here hx rfl (hb hby d0_18) ?_
    show Steps p.tables e below (s₁.setTop (mkF m 19 #[.val (.int (10 : Int32))] [(.int (2 : Int32)), (.int (10 : Int32))])) _
    refine XS.icmpYes X0.here hx rfl (pc0 := 19) (pc' := 26) rfl (hb hby d0_19) rfl (by decide +kernel) (by decide) (by decide) ?_
    show Steps p.tables e below (s₁.setTop (mkF m 26 #[.val (.int (10 : Int32))] [])) _
    refine XS.iloadN X0.here hx rfl (hb hby d0_26) rfl ?_
    show Steps p.tables e below (s₁.setTop (mkF m 27 #[.val (.int (10 : Int32))] [(.int (10 : Int32))])) _
    refine XS.iconst X0.here hx rfl (hb hby d0_27) ?_
    show Steps p.tables e below (s₁.setTop (mkF m 28 #[.val (.int (10 : Int32))] [(.int (3 : Int32)), (.int (10 : Int32))])) _
    refine XS.icmpYes X0.here hx rfl (pc0 := 28) (pc' := 35) rfl (hb hby d0_28) rfl (by decide +kernel) (by decide) (by decide) ?_
    show Steps p.tables e below (s₁.setTop (mkF m 35 #[.val (.int (10 : Int32))] [])) _
    refine XS.iloadN X0.here hx rfl (hb hby d0_35) rfl ?_
    show Steps p.tables e below (s₁.setTop (mkF m 36 #[.val (.int (10 : Int32))] [(.int (10 : Int32))])) _
    refine XS.iconst X0.here hx rfl (hb hby d0_36) ?_
    show Steps p.tables e below (s₁.setTop (mkF m 37 #[.val (.int (10 : Int32))] [(.int (4 : Int32)), (.int (10 : Int32))])) _
    refine XS.icmpYes X0.here hx rfl (pc0 := 37) (pc' := 44) rfl (hb hby d0_37) rfl (by decide +kernel) (by decide) (by decide) ?_
    show Steps p.tables e below (s₁.setTop (mkF m 44 #[.val (.int (10 : Int32))] [])) _
    refine XS.iloadN X0.here hx rfl (hb hby d0_44) rfl ?_
    show Steps p.tables e below (s₁.setTop (mkF m 45 #[.val (.int (10 : Int32))] [(.int (10 : Int32))])) _
    refine XS.iconst X0.here hx rfl (hb hby d0_45) ?_
    show Steps p.tables e below (s₁.setTop (mkF m 46 #[.val (.int (10 : Int32))] [(.int (5 : Int32)), (.int (10 : Int32))])) _
    refine XS.icmpYes X0.here hx rfl (pc0 := 46) (pc' := 53) rfl (hb hby d0_46) rfl (by decide +kernel) (by decide) (by decide) ?_
    show Steps p.tables e below (s₁.setTop (mkF m 53 #[.val (.int (10 : Int32))] [])) _
    refine XS.iloadN X0.here hx rfl (hb hby d0_53) rfl ?_
    show Steps p.tables e below (s₁.setTop (mkF m 54 #[.val (.int (10 : Int32))] [(.int (10 : Int32))])) _
    refine XS.bipush X0.here hx rfl (hb hby d0_54) ?_
    show Steps p.tables e below (s₁.setTop (mkF m 56 #[.val (.int (10 : Int32))] [(.int (6 : Int32)), (.int (10 : Int32))])) _
    refine XS.icmpYes X0.here hx rfl (pc0 := 56) (pc' := 63) rfl (hb hby d0_56) rfl (by decide +kernel) (by decide) (by decide) ?_
    show Steps p.tables e below (s₁.setTop (mkF m 63 #[.val (.int (10 : Int32))] [])) _
    refine XS.iloadN X0.here hx rfl (hb hby d0_63) rfl ?_
    show Steps p.tables e below (s₁.setTop (mkF m 64 #[.val (.int (10 : Int32))] [(.int (10 : Int32))])) _
    refine XS.bipush X0.here hx rfl (hb hby d0_64) ?_
    show Steps p.tables e below (s₁.setTop (mkF m 66 #[.val (.int (10 : Int32))] [(.int (7 : Int32)), (.int (10 : Int32))])) _
    refine XS.icmpYes X0.here hx rfl (pc0 := 66) (pc' := 73) rfl (hb hby d0_66) rfl (by decide +kernel) (by decide) (by decide) ?_
    show Steps p.tables e below (s₁.setTop (mkF m 73 #[.val (.int (10 : Int32))] [])) _
    refine XS.iloadN X0.here hx rfl (hb hby d0_73) rfl ?_
    show Steps p.tables e below (s₁.setTop (mkF m 74 #[.val (.int (10 : Int32))] [(.int (10 : Int32))])) _
    refine XS.bipush X0.here hx rfl (hb hby d0_74) ?_
    show Steps p.tables e below (s₁.setTop (mkF m 76 #[.val (.int (10 : Int32))] [(.int (8 : Int32)), (.int (10 : Int32))])) _
    refine XS.icmpYes X0.here hx rfl (pc0 := 76) (pc' := 83) rfl (hb hby d0_76) rfl (by decide +kernel) (by decide) (by decide) ?_
    show Steps p.tables e below (s₁.setTop (mkF m 83 #[.val (.int (10 : Int32))] [])) _
    refine XS.iloadN X0.here hx rfl (hb hby d0_83) rfl ?_
    show Steps p.tables e below (s₁.setTop (mkF m 84 #[.val (.int (10 : Int32))] [(.int (10 : Int32))])) _
    refine XS.bipush X0.here hx rfl (hb hby d0_84) ?_
    show Steps p.tables e below (s₁.setTop (mkF m 86 #[.val (.int (10 : Int32))] [(.int (9 : Int32)), (.int (10 : Int32))])) _
    refine XS.icmpYes X0.here hx rfl (pc0 := 86) (pc' := 93) rfl (hb hby d0_86) rfl (by decide +kernel) (by decide) (by decide) ?_
    show Steps p.tables e below (s₁.setTop (mkF m 93 #[.val (.int (10 : Int32))] [])) _
    refine XS.iloadN X0.here hx rfl (hb hby d0_93) rfl ?_
    show Steps p.tables e below (s₁.setTop (mkF m 94 #[.val (.int (10 : Int32))] [(.int (10 : Int32))])) _
    refine XS.bipush X0.here hx rfl (hb hby d0_94) ?_
    show Steps p.tables e below (s₁.setTop (mkF m 96 #[.val (.int (10 : Int32))] [(.int (10 : Int32)), (.int (10 : Int32))])) _
    refine XS.icmpNo X0.here hx rfl (hb hby d0_96) rfl (by decide +kernel) ?_
    show Steps p.tables e below (s₁.setTop (mkF m 99 #[.val (.int (10 : Int32))] [])) _
    refine st1 _ ?_
    show Steps p.tables e below (T1.setTop (mkF m 102 #[.val (.int (10 : Int32))] [(.ref s_DATE)])) _
    exact retOut X1 hx (i := .areturn) Bd.returns rfl (Or.inr (Or.inr (Or.inr (Or.inr ⟨rfl, rfl, rfl⟩)))) (hb hby d0_102) hr
  · exact ⟨rfl, N0, e1⟩
set_option maxRecDepth 65536 in
set_option maxHeartbeats 40000000 in
theorem r41 (l : Launch) (Z : State) (a0 : Array Value) (hw : ∀ d ∈ tables_1, d.before a0 Z = true) (ws : List Jvm.Cond) (h0 : Heap) (n0 : Nat) (s_NO_OP : Addr) (s_END_OF_CONSTRUCTOR : Addr) (s_ASCII_STRING : Addr) (s_BOOLEAN : Addr) (s_UNIQUE_ID : Addr) (s_SEQUENCE : Addr) (s_SET : Addr) (s_INTEGER : Addr) (s_PADDING : Addr) (s_PROPERTY_LIST : Addr) (s_DATE : Addr) (s_BIT_STRING : Addr) (t_BIT_STRING_qualifierTag : Addr) (s_PROPERTY : Addr) (s_FIELD : Addr) (t_FIELD_qualifierTag : Addr) (s_COMPRESSED : Addr) (s_ENCRYPTED : Addr) (t_ENCRYPTED_qualifierTag : Addr) (s_MESSAGE : Addr) (t_MESSAGE_qualifierTag : Addr) (s_EXTENSION : Addr) (s_VENDOR_DEFINED : Addr) (K : Ctx Z h0 s_NO_OP s_END_OF_CONSTRUCTOR s_ASCII_STRING s_BOOLEAN s_UNIQUE_ID s_SEQUENCE s_SET s_INTEGER s_PADDING s_PROPERTY_LIST s_DATE s_BIT_STRING t_BIT_STRING_qualifierTag s_PROPERTY s_FIELD t_FIELD_qualifierTag s_COMPRESSED s_ENCRYPTED t_ENCRYPTED_qualifierTag s_MESSAGE t_MESSAGE_qualifierTag s_EXTENSION s_VENDOR_DEFINED) :
    MetFree l (⟨"com/example/plainwire/plainwire/rfc806/Element", "qualified", "()Z"⟩ : MethodName) (head1 (Jvm.Cond.code (⟨"com/example/plainwire/plainwire/rfc806/Element", "qualified", "()Z"⟩ : MethodName) prog_101_method_9_code 1 (some .boolean) :: ws) ({ frames := 0, cells := 0, slots := 0, locals := 0 } : Room)) (fun a U => a = #[(.ref s_DATE)] ∧ Z.Warmed39 U.vm ∧ U.heap = h0) (fun _ _ _ _ _ => True) (fun _ U o U' => ∃ v L, o = .returned v ∧ QV (.int (0 : Int32)) h0 n0 v U'.heap L ∧ FrameEnd U o U' L ({ frames := 0, cells := 0, slots := 0, locals := 0 } : Room).cells ({ frames := 0, cells := 0, slots := 0, locals := 0 } : Room).slots) := by
  obtain ⟨S_NO_OP, F_NO_OP_code, E_NO_OP, F_NO_OP_qualifierTag, S_END_OF_CONSTRUCTOR, F_END_OF_CONSTRUCTOR_code, E_END_OF_CONSTRUCTOR, F_END_OF_CONSTRUCTOR_qualifierTag, S_ASCII_STRING, F_ASCII_STRING_code, E_ASCII_STRING, F_ASCII_STRING_qualifierTag, S_BOOLEAN, F_BOOLEAN_code, E_BOOLEAN, F_BOOLEAN_qualifierTag, S_UNIQUE_ID, F_UNIQUE_ID_code, E_UNIQUE_ID, F_UNIQUE_ID_qualifierTag, S_SEQUENCE, F_SEQUENCE_code, E_SEQUENCE, F_SEQUENCE_qualifierTag, S_SET, F_SET_code, E_SET, F_SET_qualifierTag, S_INTEGER, F_INTEGER_code, E_INTEGER, F_INTEGER_qualifierTag, S_PADDING, F_PADDING_code, E_PADDING, F_PADDING_qualifierTag, S_PROPERTY_LIST, F_PROPERTY_LIST_code, E_PROPERTY_LIST, F_PROPERTY_LIST_qualifierTag, S_DATE, F_DATE_code, E_DATE, F_DATE_qualifierTag, S_BIT_STRING, F_BIT_STRING_code, E_BIT_STRING, F_BIT_STRING_qualifierTag, S_PROPERTY, F_PROPERTY_code, E_PROPERTY, F_PROPERTY_qualifierTag, S_COMPRESSED, F_COMPRESSED_code, E_COMPRESSED, F_COMPRESSED_qualifierTag, S_ENCRYPTED, F_ENCRYPTED_code, E_ENCRYPTED, F_ENCRYPTED_qualifierTag, S_FIELD, F_FIELD_code, E_FIELD, F_FIELD_qualifierTag, S_MESSAGE, F_MESSAGE_code, E_MESSAGE, F_MESSAGE_qualifierTag, S_EXTENSION, F_EXTENSION_code, E_EXTENSION, F_EXTENSION_qualifierTag, S_VENDOR_DEFINED, F_VENDOR_DEFINED_code, E_VENDOR_DEFINED, F_VENDOR_DEFINED_qualifierTag⟩ := id K
  refine MetFree.of_bodySF (plainFor_of_name pn1) hisR ?_
  intro p e s m args below meth c s₁ Bd hml0 hP hK
  obtain ⟨rfl, hZ, hh⟩ := hP
  have hx := Bd.exec
  have hby := Bd.bytes
  have hml : c.maxLocals = 1 := hml0
  have hown : s.vm.findClass "com/example/plainwire/plainwire/rfc806/Element" = some m.cls := findClass_of_methodNamed Bd.named
  have X0 : Stand p l e ({ frames := 0, cells := 0, slots := 0, locals := 0 } : Room) s m #[(.ref s_DATE)] below meth c s₁ [] 0 0 := Stand.of_body Bd
  have e0 : s₁.heap = h0 := by rw [← hh, Bd.state]; rfl
  have N0 := Fr.nil n0
  have pre0 : ∀ t, Steps p.tables e below (s₁.setTop (mkF m 0 #[.val (.ref s_DATE)] [])) t → Steps p.tables e below (s₁.setTop (entryFrame m #[(.ref s_DATE)] 1)) t := fun t k => castTop (by first | (simp [entryFrame, mkF, argsToLocals, Value.category]; done) | rfl) k
  obtain ⟨T1, X1, e1, st1⟩ := getF X0 hx hZ hown (host := "") (Or.inl (hw _ (List.mem_of_getElem? (i := 13) rfl))) Via.refl e0 F_DATE_code (g := (mkF m 1 #[.val (.ref s_DATE)] [(.ref s_DATE)])) rfl rfl (hb hby d1_1)
  obtain ⟨fs, hr, hrun, hended, hW, hsame⟩ := X1.leave (v := some (.int (0 : Int32))) (fun h => by rw [Bd.returns] at h; cases h)
  refine ⟨_, _, pre0 _ ?_, hrun, hended, _, _, rfl, ?_, ⟨_, rfl⟩, hW, hsame.mono (by decide) (by decide)⟩
  · show Steps p.tables e below (s₁.setTop (mkF m 0 #[.val (.ref s_DATE)] [])) _
    refine XS.aloadN X0.here hx rfl (hb hby d1_0) rfl rfl ?_
    show Steps p.tables e below (s₁.setTop (mkF m 1 #[.val (.ref s_DATE)] [(.ref s_DATE)])) _
    refine st1 _ ?_
    show Steps p.tables e below (T1.setTop (mkF m 4 #[.val (.ref s_DATE)] [(.int (40 : Int32))])) _
    refine XS.bipush X1.here hx rfl (hb hby d1_4) ?_
    show Steps p.tables e below (T1.setTop (mkF m 6 #[.val (.ref s_DATE)] [(.int (64 : Int32)), (.int (40 : Int32))])) _
    refine XS.iand X1.here hx rfl (hb hby d1_6) rfl ?_
    show Steps p.tables e below (T1.setTop (mkF m 7 #[.val (.ref s_DATE)] [(.int ((40 : Int32) &&& (64 : Int32)))])) _
    rw [show ((40 : Int32) &&& (64 : Int32)) = (0 : Int32) from by decide +kernel]
    show Steps p.tables e below (T1.setTop (mkF m 7 #[.val (.ref s_DATE)] [(.int (0 : Int32))])) _
    refine XS.ifYes X1.here hx rfl (pc0 := 7) (pc' := 14) rfl (hb hby d1_7) rfl (by decide +kernel) (by decide) (by decide) ?_
    show Steps p.tables e below (T1.setTop (mkF m 14 #[.val (.ref s_DATE)] [])) _
    refine XS.iconst X1.here hx rfl (hb hby d1_14) ?_
    show Steps p.tables e below (T1.setTop (mkF m 15 #[.val (.ref s_DATE)] [(.int (0 : Int32))])) _
    exact retN X1 hx (t := .boolean) Bd.returns (by simp) (hb hby d1_15) hr
  · exact ⟨rfl, N0, e1⟩
set_option maxRecDepth 65536 in
set_option maxHeartbeats 40000000 in
theorem r42 (l : Launch) (Z : State) (a0 : Array Value) (hw : ∀ d ∈ tables_1, d.before a0 Z = true) (ws : List Jvm.Cond) (h0 : Heap) (n0 : Nat) (s_NO_OP : Addr) (s_END_OF_CONSTRUCTOR : Addr) (s_ASCII_STRING : Addr) (s_BOOLEAN : Addr) (s_UNIQUE_ID : Addr) (s_SEQUENCE : Addr) (s_SET : Addr) (s_INTEGER : Addr) (s_PADDING : Addr) (s_PROPERTY_LIST : Addr) (s_DATE : Addr) (s_BIT_STRING : Addr) (t_BIT_STRING_qualifierTag : Addr) (s_PROPERTY : Addr) (s_FIELD : Addr) (t_FIELD_qualifierTag : Addr) (s_COMPRESSED : Addr) (s_ENCRYPTED : Addr) (t_ENCRYPTED_qualifierTag : Addr) (s_MESSAGE : Addr) (t_MESSAGE_qualifierTag : Addr) (s_EXTENSION : Addr) (s_VENDOR_DEFINED : Addr) (K : Ctx Z h0 s_NO_OP s_END_OF_CONSTRUCTOR s_ASCII_STRING s_BOOLEAN s_UNIQUE_ID s_SEQUENCE s_SET s_INTEGER s_PADDING s_PROPERTY_LIST s_DATE s_BIT_STRING t_BIT_STRING_qualifierTag s_PROPERTY s_FIELD t_FIELD_qualifierTag s_COMPRESSED s_ENCRYPTED t_ENCRYPTED_qualifierTag s_MESSAGE t_MESSAGE_qualifierTag s_EXTENSION s_VENDOR_DEFINED) :
    MetFree l (⟨"com/example/plainwire/plainwire/rfc806/Element", "qualifierTag", "()Ljava/lang/String;"⟩ : MethodName) (head1 (Jvm.Cond.code (⟨"com/example/plainwire/plainwire/rfc806/Element", "qualifierTag", "()Ljava/lang/String;"⟩ : MethodName) prog_101_method_10_code 1 (some (.object "java/lang/String")) :: ws) ({ frames := 0, cells := 0, slots := 0, locals := 0 } : Room)) (fun a U => a = #[(.ref s_DATE)] ∧ Z.Warmed39 U.vm ∧ U.heap = h0) (fun _ _ _ _ _ => True) (fun _ U o U' => ∃ v L, o = .returned v ∧ QV .null h0 n0 v U'.heap L ∧ FrameEnd U o U' L ({ frames := 0, cells := 0, slots := 0, locals := 0 } : Room).cells ({ frames := 0, cells := 0, slots := 0, locals := 0 } : Room).slots) := by
  obtain ⟨S_NO_OP, F_NO_OP_code, E_NO_OP, F_NO_OP_qualifierTag, S_END_OF_CONSTRUCTOR, F_END_OF_CONSTRUCTOR_code, E_END_OF_CONSTRUCTOR, F_END_OF_CONSTRUCTOR_qualifierTag, S_ASCII_STRING, F_ASCII_STRING_code, E_ASCII_STRING, F_ASCII_STRING_qualifierTag, S_BOOLEAN, F_BOOLEAN_code, E_BOOLEAN, F_BOOLEAN_qualifierTag, S_UNIQUE_ID, F_UNIQUE_ID_code, E_UNIQUE_ID, F_UNIQUE_ID_qualifierTag, S_SEQUENCE, F_SEQUENCE_code, E_SEQUENCE, F_SEQUENCE_qualifierTag, S_SET, F_SET_code, E_SET, F_SET_qualifierTag, S_INTEGER, F_INTEGER_code, E_INTEGER, F_INTEGER_qualifierTag, S_PADDING, F_PADDING_code, E_PADDING, F_PADDING_qualifierTag, S_PROPERTY_LIST, F_PROPERTY_LIST_code, E_PROPERTY_LIST, F_PROPERTY_LIST_qualifierTag, S_DATE, F_DATE_code, E_DATE, F_DATE_qualifierTag, S_BIT_STRING, F_BIT_STRING_code, E_BIT_STRING, F_BIT_STRING_qualifierTag, S_PROPERTY, F_PROPERTY_code, E_PROPERTY, F_PROPERTY_qualifierTag, S_COMPRESSED, F_COMPRESSED_code, E_COMPRESSED, F_COMPRESSED_qualifierTag, S_ENCRYPTED, F_ENCRYPTED_code, E_ENCRYPTED, F_ENCRYPTED_qualifierTag, S_FIELD, F_FIELD_code, E_FIELD, F_FIELD_qualifierTag, S_MESSAGE, F_MESSAGE_code, E_MESSAGE, F_MESSAGE_qualifierTag, S_EXTENSION, F_EXTENSION_code, E_EXTENSION, F_EXTENSION_qualifierTag, S_VENDOR_DEFINED, F_VENDOR_DEFINED_code, E_VENDOR_DEFINED, F_VENDOR_DEFINED_qualifierTag⟩ := id K
  refine MetFree.of_bodySF (plainFor_of_name pn2) hisR ?_
  intro p e s m args below meth c s₁ Bd hml0 hP hK
  obtain ⟨rfl, hZ, hh⟩ := hP
  have hx := Bd.exec
  have hby := Bd.bytes
  have hml : c.maxLocals = 1 := hml0
  have hown : s.vm.findClass "com/example/plainwire/plainwire/rfc806/Element" = some m.cls := findClass_of_methodNamed Bd.named
  have X0 : Stand p l e ({ frames := 0, cells := 0, slots := 0, locals := 0 } : Room) s m #[(.ref s_DATE)] below meth c s₁ [] 0 0 := Stand.of_body Bd
  have e0 : s₁.heap = h0 := by rw [← hh, Bd.state]; rfl
  have N0 := Fr.nil n0
  have pre0 : ∀ t, Steps p.tables e below (s₁.setTop (mkF m 0 #[.val (.ref s_DATE)] [])) t → Steps p.tables e below (s₁.setTop (entryFrame m #[(.ref s_DATE)] 1)) t := fun t k => castTop (by first | (simp [entryFrame, mkF, argsToLocals, Value.category]; done) | rfl) k
  obtain ⟨T1, X1, e1, st1⟩ := getF X0 hx hZ hown (host := "") (Or.inl (hw _ (List.mem_of_getElem? (i := 20) rfl))) Via.refl e0 F_DATE_qualifierTag (g := (mkF m 1 #[.val (.ref s_DATE)] [(.ref s_DATE)])) rfl rfl (hb hby d2_1)
  obtain ⟨fs, hr, hrun, hended, hW, hsame⟩ := X1.leave (v := some .null) (fun h => by rw [Bd.returns] at h; cases h)
  refine ⟨_, _, pre0 _ ?_, hrun, hended, _, _, rfl, ?_, ⟨_, rfl⟩, hW, hsame.mono (by decide) (by decide)⟩
  · show Steps p.tables e below (s₁.setTop (mkF m 0 #[.val (.ref s_DATE)] [])) _
    refine XS.aloadN X0.here hx rfl (hb hby d2_0) rfl rfl ?_
    show Steps p.tables e below (s₁.setTop (mkF m 1 #[.val (.ref s_DATE)] [(.ref s_DATE)])) _
    refine st1 _ ?_
    show Steps p.tables e below (T1.setTop (mkF m 4 #[.val (.ref s_DATE)] [.null])) _
    exact retOut X1 hx (i := .areturn) Bd.returns rfl (Or.inr (Or.inr (Or.inr (Or.inr ⟨rfl, rfl, rfl⟩)))) (hb hby d2_4) hr
  · exact ⟨rfl, N0, e1⟩
set_option maxRecDepth 65536 in
set_option maxHeartbeats 40000000 in
theorem law_k10 (l : Launch) (Z : State) (a0 : Array Value) (hw : ∀ d ∈ tables_1, d.before a0 Z = true) (ws : List Jvm.Cond) (h0 : Heap) (n0 : Nat) (s_NO_OP : Addr) (s_END_OF_CONSTRUCTOR : Addr) (s_ASCII_STRING : Addr) (s_BOOLEAN : Addr) (s_UNIQUE_ID : Addr) (s_SEQUENCE : Addr) (s_SET : Addr) (s_INTEGER : Addr) (s_PADDING : Addr) (s_PROPERTY_LIST : Addr) (s_DATE : Addr) (s_BIT_STRING : Addr) (t_BIT_STRING_qualifierTag : Addr) (s_PROPERTY : Addr) (s_FIELD : Addr) (t_FIELD_qualifierTag : Addr) (s_COMPRESSED : Addr) (s_ENCRYPTED : Addr) (t_ENCRYPTED_qualifierTag : Addr) (s_MESSAGE : Addr) (t_MESSAGE_qualifierTag : Addr) (s_EXTENSION : Addr) (s_VENDOR_DEFINED : Addr) (K : Ctx Z h0 s_NO_OP s_END_OF_CONSTRUCTOR s_ASCII_STRING s_BOOLEAN s_UNIQUE_ID s_SEQUENCE s_SET s_INTEGER s_PADDING s_PROPERTY_LIST s_DATE s_BIT_STRING t_BIT_STRING_qualifierTag s_PROPERTY s_FIELD t_FIELD_qualifierTag s_COMPRESSED s_ENCRYPTED t_ENCRYPTED_qualifierTag s_MESSAGE t_MESSAGE_qualifierTag s_EXTENSION s_VENDOR_DEFINED) (p0 : Int32) (hp0 : ((p0 &&& (2147483647 : Int32)) % (19 : Int32)) = (10 : Int32)) :
    MetFree l x (head1 (Jvm.Cond.code x code maxLocals ret :: ws) room_1) (fun a U => a = #[(.int p0)] ∧ Z.Warmed39 U.vm ∧ U.heap = h0) (fun _ _ _ _ _ => True) (fun _ U o U' => ∃ v L, o = .returned v ∧ QV (.int (1 : Int32)) h0 n0 v U'.heap L ∧ FrameEnd U o U' L room_1.cells room_1.slots) := by
  obtain ⟨S_NO_OP, F_NO_OP_code, E_NO_OP, F_NO_OP_qualifierTag, S_END_OF_CONSTRUCTOR, F_END_OF_CONSTRUCTOR_code, E_END_OF_CONSTRUCTOR, F_END_OF_CONSTRUCTOR_qualifierTag, S_ASCII_STRING, F_ASCII_STRING_code, E_ASCII_STRING, F_ASCII_STRING_qualifierTag, S_BOOLEAN, F_BOOLEAN_code, E_BOOLEAN, F_BOOLEAN_qualifierTag, S_UNIQUE_ID, F_UNIQUE_ID_code, E_UNIQUE_ID, F_UNIQUE_ID_qualifierTag, S_SEQUENCE, F_SEQUENCE_code, E_SEQUENCE, F_SEQUENCE_qualifierTag, S_SET, F_SET_code, E_SET, F_SET_qualifierTag, S_INTEGER, F_INTEGER_code, E_INTEGER, F_INTEGER_qualifierTag, S_PADDING, F_PADDING_code, E_PADDING, F_PADDING_qualifierTag, S_PROPERTY_LIST, F_PROPERTY_LIST_code, E_PROPERTY_LIST, F_PROPERTY_LIST_qualifierTag, S_DATE, F_DATE_code, E_DATE, F_DATE_qualifierTag, S_BIT_STRING, F_BIT_STRING_code, E_BIT_STRING, F_BIT_STRING_qualifierTag, S_PROPERTY, F_PROPERTY_code, E_PROPERTY, F_PROPERTY_qualifierTag, S_COMPRESSED, F_COMPRESSED_code, E_COMPRESSED, F_COMPRESSED_qualifierTag, S_ENCRYPTED, F_ENCRYPTED_code, E_ENCRYPTED, F_ENCRYPTED_qualifierTag, S_FIELD, F_FIELD_code, E_FIELD, F_FIELD_qualifierTag, S_MESSAGE, F_MESSAGE_code, E_MESSAGE, F_MESSAGE_qualifierTag, S_EXTENSION, F_EXTENSION_code, E_EXTENSION, F_EXTENSION_qualifierTag, S_VENDOR_DEFINED, F_VENDOR_DEFINED_code, E_VENDOR_DEFINED, F_VENDOR_DEFINED_qualifierTag⟩ := id K
  refine MetFree.of_bodySF (plainFor_of_name pn3) hisR ?_
  intro p e s m args below meth c s₁ Bd hml0 hP hK
  obtain ⟨rfl, hZ, hh⟩ := hP
  have hx := Bd.exec
  have hby := Bd.bytes
  have hml : c.maxLocals = 6 := hml0
  have hown : s.vm.findClass "com/example/plainwire/plainwire/rfc806/ElementQualifiedPinLaw" = some m.cls := findClass_of_methodNamed Bd.named
  have X0 : Stand p l e room_1 s m #[(.int p0)] below meth c s₁ [] 0 0 := Stand.of_body Bd
  have e0 : s₁.heap = h0 := by rw [← hh, Bd.state]; rfl
  have N0 := Fr.nil n0
  have pre0 : ∀ t, Steps p.tables e below (s₁.setTop (mkF m 0 #[.val (.int p0), .unset, .unset, .unset, .unset, .unset] [])) t → Steps p.tables e below (s₁.setTop (entryFrame m #[(.int p0)] maxLocals)) t := fun t k => castTop (by first | (simp [entryFrame, mkF, argsToLocals, Value.category, maxLocals]; done) | rfl) k
  obtain ⟨_, _, ⟨T1, L1, k1, n1⟩, -, X1, ⟨Lc1, hQ1, l1, y1, z1⟩, st1⟩ := Jvm.LawKit.callS X0 hx (y := (⟨"com/example/plainwire/plainwire/rfc806/ElementQualifiedPinLaw", "pick", "(I)Lcom/example/plainwire/plainwire/rfc806/Element;"⟩ : MethodName)) hown (mvT hZ (hw _ (List.mem_of_getElem? (i := 1) rfl))) (mvT hZ (hw _ (List.mem_of_getElem? (i := 2) rfl))) (mvT hZ (hw _ (List.mem_of_getElem? (i := 3) rfl))) (mvT hZ (hw _ (List.mem_of_getElem? (i := 4) rfl))) (by decide) (backOf (W := 0) (r40 l Z a0 hw [] h0 n0 s_NO_OP s_END_OF_CONSTRUCTOR s_ASCII_STRING s_BOOLEAN s_UNIQUE_ID s_SEQUENCE s_SET s_INTEGER s_PADDING s_PROPERTY_LIST s_DATE s_BIT_STRING t_BIT_STRING_qualifierTag s_PROPERTY s_FIELD t_FIELD_qualifierTag s_COMPRESSED s_ENCRYPTED t_ENCRYPTED_qualifierTag s_MESSAGE t_MESSAGE_qualifierTag s_EXTENSION s_VENDOR_DEFINED K) hZ (hw _ (List.mem_of_getElem? (i := 4) rfl)) (hw _ (List.mem_of_getElem? (i := 3) rfl)) (by decide) (by decide)) (g := (mkF m 9 #[.val (.int p0), .val (.int (10 : Int32)), .unset, .unset, .unset, .unset] [(.int (10 : Int32))])) rfl (by rw [hml]; rfl) (argsL := [(.int (10 : Int32))]) (rest := []) (lenOf pd0 rfl) rfl (by show 2 * 0 + _ ≤ _; exact Nat.le_of_eq rfl) (hb hby at_9) (fun _ _ => ⟨rfl, e0, (by decide : 0 + 0 ≤ _), (by decide : 0 + 0 ≤ _)⟩)
  dsimp only [Pt.U, Pt.locs, Pt.cells, Pt.slots] at X1 l1 y1 z1 st1 hQ1
  subst l1 y1 z1
  obtain ⟨rfl, N1q, e1⟩ := hQ1
  have N1 := Fr.app N0 N1q
  obtain ⟨cq2, kq2, q2a, q2b, q2c⟩ := isOf hZ e1 E_DATE
  obtain ⟨_, _, ⟨T2, L2, k2, n2⟩, -, X2, ⟨Lc2, hQ2, l2, y2, z2⟩, st2⟩ := X1.virtualBack hx (y := (⟨"com/example/plainwire/plainwire/rfc806/Element", "qualified", "()Z"⟩ : MethodName)) (z := (⟨"com/example/plainwire/plainwire/rfc806/Element", "qualified", "()Z"⟩ : MethodName)) hown (mvT hZ (hw _ (List.mem_of_getElem? (i := 8) rfl))) (mvT hZ (hw _ (List.mem_of_getElem? (i := 9) rfl))) (notFace_of_selects (args := #[]) (mvT hZ (hw _ (List.mem_of_getElem? (i := 11) rfl)))) (mvT hZ (hw _ (List.mem_of_getElem? (i := 11) rfl))) (mvT hZ (hw _ (List.mem_of_getElem? (i := 10) rfl))) (by decide) (backOf (W := 0) (r41 l Z a0 hw [] h0 n0 s_NO_OP s_END_OF_CONSTRUCTOR s_ASCII_STRING s_BOOLEAN s_UNIQUE_ID s_SEQUENCE s_SET s_INTEGER s_PADDING s_PROPERTY_LIST s_DATE s_BIT_STRING t_BIT_STRING_qualifierTag s_PROPERTY s_FIELD t_FIELD_qualifierTag s_COMPRESSED s_ENCRYPTED t_ENCRYPTED_qualifierTag s_MESSAGE t_MESSAGE_qualifierTag s_EXTENSION s_VENDOR_DEFINED K) hZ (hw _ (List.mem_of_getElem? (i := 12) rfl)) (hw _ (List.mem_of_getElem? (i := 6) rfl)) (by decide) (by decide)) q2a q2c (g := (mkF m 26 #[.val (.int p0), .val (.int (10 : Int32)), .val (.ref s_DATE), .val (.int (0 : Int32)), .unset, .unset] [(.ref s_DATE)])) rfl (by rw [hml]; rfl) (Steps.refl _) (argsL := []) (rest := []) (lenOf pd1 rfl) rfl (by show 2 * 0 + _ ≤ _; exact Nat.le_of_eq rfl) (hb hby at_26) (fun _ _ => ⟨rfl, e1, (by decide : 0 + 0 ≤ _), (by decide : 0 + 0 ≤ _)⟩)
  dsimp only [Pt.U, Pt.locs, Pt.cells, Pt.slots] at X2 l2 y2 z2 st2 hQ2
  subst l2 y2 z2
  obtain ⟨rfl, N2q, e2⟩ := hQ2
  have N2 := Fr.app N1 N2q
  obtain ⟨cq3, kq3, q3a, q3b, q3c⟩ := isOf hZ e2 E_DATE
  obtain ⟨_, _, ⟨T3, L3, k3, n3⟩, -, X3, ⟨Lc3, hQ3, l3, y3, z3⟩, st3⟩ := X2.virtualBack hx (y := (⟨"com/example/plainwire/plainwire/rfc806/Element", "qualifierTag", "()Ljava/lang/String;"⟩ : MethodName)) (z := (⟨"com/example/plainwire/plainwire/rfc806/Element", "qualifierTag", "()Ljava/lang/String;"⟩ : MethodName)) hown (mvT hZ (hw _ (List.mem_of_getElem? (i := 15) rfl))) (mvT hZ (hw _ (List.mem_of_getElem? (i := 16) rfl))) (notFace_of_selects (args := #[]) (mvT hZ (hw _ (List.mem_of_getElem? (i := 18) rfl)))) (mvT hZ (hw _ (List.mem_of_getElem? (i := 18) rfl))) (mvT hZ (hw _ (List.mem_of_getElem? (i := 17) rfl))) (by decide) (backOf (W := 0) (r42 l Z a0 hw [] h0 n0 s_NO_OP s_END_OF_CONSTRUCTOR s_ASCII_STRING s_BOOLEAN s_UNIQUE_ID s_SEQUENCE s_SET s_INTEGER s_PADDING s_PROPERTY_LIST s_DATE s_BIT_STRING t_BIT_STRING_qualifierTag s_PROPERTY s_FIELD t_FIELD_qualifierTag s_COMPRESSED s_ENCRYPTED t_ENCRYPTED_qualifierTag s_MESSAGE t_MESSAGE_qualifierTag s_EXTENSION s_VENDOR_DEFINED K) hZ (hw _ (List.mem_of_getElem? (i := 19) rfl)) (hw _ (List.mem_of_getElem? (i := 6) rfl)) (by decide) (by decide)) q3a q3c (g := (mkF m 32 #[.val (.int p0), .val (.int (10 : Int32)), .val (.ref s_DATE), .val (.int (0 : Int32)), .val (.int (0 : Int32)), .unset] [(.ref s_DATE)])) rfl (by rw [hml]; rfl) (Steps.refl _) (argsL := []) (rest := []) (lenOf pd2 rfl) rfl (by show 2 * 0 + _ ≤ _; exact Nat.le_of_eq rfl) (hb hby at_32) (fun _ _ => ⟨rfl, e2, (by decide : 0 + 0 ≤ _), (by decide : 0 + 0 ≤ _)⟩)
  dsimp only [Pt.U, Pt.locs, Pt.cells, Pt.slots] at X3 l3 y3 z3 st3 hQ3
  subst l3 y3 z3
  obtain ⟨rfl, N3q, e3⟩ := hQ3
  have N3 := Fr.app N2 N3q
  obtain ⟨fs, hr, hrun, hended, hW, hsame⟩ := X3.leave (v := some (.int (1 : Int32))) (fun h => by rw [Bd.returns] at h; cases h)
  refine ⟨_, _, pre0 _ ?_, hrun, hended, _, _, rfl, ?_, ⟨_, rfl⟩, hW, hsame.mono (by decide) (by decide)⟩
  · show Steps p.tables e below (s₁.setTop (mkF m 0 #[.val (.int p0), .unset, .unset, .unset, .unset, .unset] [])) _
    refine XS.iloadN X0.here hx rfl (hb hby at_0) rfl ?_
    show Steps p.tables e below (s₁.setTop (mkF m 1 #[.val (.int p0), .unset, .unset, .unset, .unset, .unset] [(.int p0)])) _
    refine X0.ldcInt hx hown (mvT hZ (hw _ (List.mem_of_getElem? (i := 0) rfl))) (g := (mkF m 1 #[.val (.int p0), .unset, .unset, .unset, .unset, .unset] [(.int p0)])) rfl (hb hby at_1) _ ?_
    show Steps p.tables e below (s₁.setTop (mkF m 3 #[.val (.int p0), .unset, .unset, .unset, .unset, .unset] [(.int (2147483647 : Int32)), (.int p0)])) _
    refine XS.iand X0.here hx rfl (hb hby at_3) rfl ?_
    show Steps p.tables e below (s₁.setTop (mkF m 4 #[.val (.int p0), .unset, .unset, .unset, .unset, .unset] [(.int (p0 &&& (2147483647 : Int32)))])) _
    refine XS.bipush X0.here hx rfl (hb hby at_4) ?_
    show Steps p.tables e below (s₁.setTop (mkF m 6 #[.val (.int p0), .unset, .unset, .unset, .unset, .unset] [(.int (19 : Int32)), (.int (p0 &&& (2147483647 : Int32)))])) _
    refine Jvm.RoadKit.iremM X0 hx rfl (hb hby at_6) rfl (by decide) ?_
    show Steps p.tables e below (s₁.setTop (mkF m 7 #[.val (.int p0), .unset, .unset, .unset, .unset, .unset] [(.int ((p0 &&& (2147483647 : Int32)) % (19 : Int32)))])) _
    rw [hp0]
    show Steps p.tables e below (s₁.setTop (mkF m 7 #[.val (.int p0), .unset, .unset, .unset, .unset, .unset] [(.int (10 : Int32))])) _
    refine XS.istoreN X0.here hx rfl (hb hby at_7) rfl (l' := #[.val (.int p0), .val (.int (10 : Int32)), .unset, .unset, .unset, .unset]) rfl ?_
    show Steps p.tables e below (s₁.setTop (mkF m 8 #[.val (.int p0), .val (.int (10 : Int32)), .unset, .unset, .unset, .unset] [])) _
    refine XS.iloadN X0.here hx rfl (hb hby at_8) rfl ?_
    show Steps p.tables e below (s₁.setTop (mkF m 9 #[.val (.int p0), .val (.int (10 : Int32)), .unset, .unset, .unset, .unset] [(.int (10 : Int32))])) _
    refine st1 _ ?_
    show Steps p.tables e below (T1.setTop (mkF m 12 #[.val (.int p0), .val (.int (10 : Int32)), .unset, .unset, .unset, .unset] [(.ref s_DATE)])) _
    refine XS.astoreN X1.here hx rfl (hb hby at_12) rfl rfl (l' := #[.val (.int p0), .val (.int (10 : Int32)), .val (.ref s_DATE), .unset, .unset, .unset]) rfl ?_
    show Steps p.tables e below (T1.setTop (mkF m 13 #[.val (.int p0), .val (.int (10 : Int32)), .val (.ref s_DATE), .unset, .unset, .unset] [])) _
    refine XS.iloadN X1.here hx rfl (hb hby at_13) rfl ?_
    show Steps p.tables e below (T1.setTop (mkF m 14 #[.val (.int p0), .val (.int (10 : Int32)), .val (.ref s_DATE), .unset, .unset, .unset] [(.int (10 : Int32))])) _
    refine XS.bipush X1.here hx rfl (hb hby at_14) ?_
    show Steps p.tables e below (T1.setTop (mkF m 16 #[.val (.int p0), .val (.int (10 : Int32)), .val (.ref s_DATE), .unset, .unset, .unset] [(.int (11 : Int32)), (.int (10 : Int32))])) _
    refine XS.icmpYes X1.here hx rfl (pc0 := 16) (pc' := 23) rfl (hb hby at_16) rfl (by decide +kernel) (by decide) (by decide) ?_
    show Steps p.tables e below (T1.setTop (mkF m 23 #[.val (.int p0), .val (.int (10 : Int32)), .val (.ref s_DATE), .unset, .unset, .unset] [])) _
    refine XS.iconst X1.here hx rfl (hb hby at_23) ?_
    show Steps p.tables e below (T1.setTop (mkF m 24 #[.val (.int p0), .val (.int (10 : Int32)), .val (.ref s_DATE), .unset, .unset, .unset] [(.int (0 : Int32))])) _
    refine XS.istoreN X1.here hx rfl (hb hby at_24) rfl (l' := #[.val (.int p0), .val (.int (10 : Int32)), .val (.ref s_DATE), .val (.int (0 : Int32)), .unset, .unset]) rfl ?_
    show Steps p.tables e below (T1.setTop (mkF m 25 #[.val (.int p0), .val (.int (10 : Int32)), .val (.ref s_DATE), .val (.int (0 : Int32)), .unset, .unset] [])) _
    refine XS.aloadN X1.here hx rfl (hb hby at_25) rfl rfl ?_
    show Steps p.tables e below (T1.setTop (mkF m 26 #[.val (.int p0), .val (.int (10 : Int32)), .val (.ref s_DATE), .val (.int (0 : Int32)), .unset, .unset] [(.ref s_DATE)])) _
    refine st2.trans ?_
    show Steps p.tables e below (T2.setTop (mkF m 29 #[.val (.int p0), .val (.int (10 : Int32)), .val (.ref s_DATE), .val (.int (0 : Int32)), .unset, .unset] [(.int (0 : Int32))])) _
    refine XS.istore X2.here hx rfl (hb hby at_29) rfl (l' := #[.val (.int p0), .val (.int (10 : Int32)), .val (.ref s_DATE), .val (.int (0 : Int32)), .val (.int (0 : Int32)), .unset]) rfl ?_
    show Steps p.tables e below (T2.setTop (mkF m 31 #[.val (.int p0), .val (.int (10 : Int32)), .val (.ref s_DATE), .val (.int (0 : Int32)), .val (.int (0 : Int32)), .unset] [])) _
    refine XS.aloadN X2.here hx rfl (hb hby at_31) rfl rfl ?_
    show Steps p.tables e below (T2.setTop (mkF m 32 #[.val (.int p0), .val (.int (10 : Int32)), .val (.ref s_DATE), .val (.int (0 : Int32)), .val (.int (0 : Int32)), .unset] [(.ref s_DATE)])) _
    refine st3.trans ?_
    show Steps p.tables e below (T3.setTop (mkF m 35 #[.val (.int p0), .val (.int (10 : Int32)), .val (.ref s_DATE), .val (.int (0 : Int32)), .val (.int (0 : Int32)), .unset] [.null])) _
    refine XS.ifnullYes X3.here hx rfl (pc0 := 35) (pc' := 42) rfl (hb hby at_35) rfl (by decide) (by decide) ?_
    show Steps p.tables e below (T3.setTop (mkF m 42 #[.val (.int p0), .val (.int (10 : Int32)), .val (.ref s_DATE), .val (.int (0 : Int32)), .val (.int (0 : Int32)), .unset] [])) _
    refine XS.iconst X3.here hx rfl (hb hby at_42) ?_
    show Steps p.tables e below (T3.setTop (mkF m 43 #[.val (.int p0), .val (.int (10 : Int32)), .val (.ref s_DATE), .val (.int (0 : Int32)), .val (.int (0 : Int32)), .unset] [(.int (0 : Int32))])) _
    refine XS.istore X3.here hx rfl (hb hby at_43) rfl (l' := #[.val (.int p0), .val (.int (10 : Int32)), .val (.ref s_DATE), .val (.int (0 : Int32)), .val (.int (0 : Int32)), .val (.int (0 : Int32))]) rfl ?_
    show Steps p.tables e below (T3.setTop (mkF m 45 #[.val (.int p0), .val (.int (10 : Int32)), .val (.ref s_DATE), .val (.int (0 : Int32)), .val (.int (0 : Int32)), .val (.int (0 : Int32))] [])) _
    refine XS.iload X3.here hx rfl (hb hby at_45) rfl ?_
    show Steps p.tables e below (T3.setTop (mkF m 47 #[.val (.int p0), .val (.int (10 : Int32)), .val (.ref s_DATE), .val (.int (0 : Int32)), .val (.int (0 : Int32)), .val (.int (0 : Int32))] [(.int (0 : Int32))])) _
    refine XS.iloadN X3.here hx rfl (hb hby at_47) rfl ?_
    show Steps p.tables e below (T3.setTop (mkF m 48 #[.val (.int p0), .val (.int (10 : Int32)), .val (.ref s_DATE), .val (.int (0 : Int32)), .val (.int (0 : Int32)), .val (.int (0 : Int32))] [(.int (0 : Int32)), (.int (0 : Int32))])) _
    refine XS.icmpNo X3.here hx rfl (hb hby at_48) rfl (by decide +kernel) ?_
    show Steps p.tables e below (T3.setTop (mkF m 51 #[.val (.int p0), .val (.int (10 : Int32)), .val (.ref s_DATE), .val (.int (0 : Int32)), .val (.int (0 : Int32)), .val (.int (0 : Int32))] [])) _
    refine XS.iload X3.here hx rfl (hb hby at_51) rfl ?_
    show Steps p.tables e below (T3.setTop (mkF m 53 #[.val (.int p0), .val (.int (10 : Int32)), .val (.ref s_DATE), .val (.int (0 : Int32)), .val (.int (0 : Int32)), .val (.int (0 : Int32))] [(.int (0 : Int32))])) _
    refine XS.iload X3.here hx rfl (hb hby at_53) rfl ?_
    show Steps p.tables e below (T3.setTop (mkF m 55 #[.val (.int p0), .val (.int (10 : Int32)), .val (.ref s_DATE), .val (.int (0 : Int32)), .val (.int (0 : Int32)), .val (.int (0 : Int32))] [(.int (0 : Int32)), (.int (0 : Int32))])) _
    refine XS.icmpNo X3.here hx rfl (hb hby at_55) rfl (by decide +kernel) ?_
    show Steps p.tables e below (T3.setTop (mkF m 58 #[.val (.int p0), .val (.int (10 : Int32)), .val (.ref s_DATE), .val (.int (0 : Int32)), .val (.int (0 : Int32)), .val (.int (0 : Int32))] [])) _
    refine XS.iconst X3.here hx rfl (hb hby at_58) ?_
    show Steps p.tables e below (T3.setTop (mkF m 59 #[.val (.int p0), .val (.int (10 : Int32)), .val (.ref s_DATE), .val (.int (0 : Int32)), .val (.int (0 : Int32)), .val (.int (0 : Int32))] [(.int (1 : Int32))])) _
    refine XS.goto X3.here hx rfl (pc0 := 59) (pc' := 63) rfl (hb hby at_59) (by decide) (by decide) ?_
    show Steps p.tables e below (T3.setTop (mkF m 63 #[.val (.int p0), .val (.int (10 : Int32)), .val (.ref s_DATE), .val (.int (0 : Int32)), .val (.int (0 : Int32)), .val (.int (0 : Int32))] [(.int (1 : Int32))])) _
    exact retN X3 hx (t := .boolean) Bd.returns (by simp) (hb hby at_63) hr
  · exact ⟨rfl, N3, e3⟩
set_option maxRecDepth 65536 in
set_option maxHeartbeats 40000000 in
theorem r44 (l : Launch) (Z : State) (a0 : Array Value) (hw : ∀ d ∈ tables_1, d.before a0 Z = true) (ws : List Jvm.Cond) (h0 : Heap) (n0 : Nat) (s_NO_OP : Addr) (s_END_OF_CONSTRUCTOR : Addr) (s_ASCII_STRING : Addr) (s_BOOLEAN : Addr) (s_UNIQUE_ID : Addr) (s_SEQUENCE : Addr) (s_SET : Addr) (s_INTEGER : Addr) (s_PADDING : Addr) (s_PROPERTY_LIST : Addr) (s_DATE : Addr) (s_BIT_STRING : Addr) (t_BIT_STRING_qualifierTag : Addr) (s_PROPERTY : Addr) (s_FIELD : Addr) (t_FIELD_qualifierTag : Addr) (s_COMPRESSED : Addr) (s_ENCRYPTED : Addr) (t_ENCRYPTED_qualifierTag : Addr) (s_MESSAGE : Addr) (t_MESSAGE_qualifierTag : Addr) (s_EXTENSION : Addr) (s_VENDOR_DEFINED : Addr) (K : Ctx Z h0 s_NO_OP s_END_OF_CONSTRUCTOR s_ASCII_STRING s_BOOLEAN s_UNIQUE_ID s_SEQUENCE s_SET s_INTEGER s_PADDING s_PROPERTY_LIST s_DATE s_BIT_STRING t_BIT_STRING_qualifierTag s_PROPERTY s_FIELD t_FIELD_qualifierTag s_COMPRESSED s_ENCRYPTED t_ENCRYPTED_qualifierTag s_MESSAGE t_MESSAGE_qualifierTag s_EXTENSION s_VENDOR_DEFINED) :
    MetFree l (⟨"com/example/plainwire/plainwire/rfc806/ElementQualifiedPinLaw", "pick", "(I)Lcom/example/plainwire/plainwire/rfc806/Element;"⟩ : MethodName) (head1 (Jvm.Cond.code (⟨"com/example/plainwire/plainwire/rfc806/ElementQualifiedPinLaw", "pick", "(I)Lcom/example/plainwire/plainwire/rfc806/Element;"⟩ : MethodName) method_2_code 1 (some (.object "com/example/plainwire/plainwire/rfc806/Element")) :: ws) ({ frames := 0, cells := 0, slots := 0, locals := 0 } : Room)) (fun a U => a = #[(.int (11 : Int32))] ∧ Z.Warmed39 U.vm ∧ U.heap = h0) (fun _ _ _ _ _ => True) (fun _ U o U' => ∃ v L, o = .returned v ∧ QV (.ref s_BIT_STRING) h0 n0 v U'.heap L ∧ FrameEnd U o U' L ({ frames := 0, cells := 0, slots := 0, locals := 0 } : Room).cells ({ frames := 0, cells := 0, slots := 0, locals := 0 } : Room).slots) := by
  obtain ⟨S_NO_OP, F_NO_OP_code, E_NO_OP, F_NO_OP_qualifierTag, S_END_OF_CONSTRUCTOR, F_END_OF_CONSTRUCTOR_code, E_END_OF_CONSTRUCTOR, F_END_OF_CONSTRUCTOR_qualifierTag, S_ASCII_STRING, F_ASCII_STRING_code, E_ASCII_STRING, F_ASCII_STRING_qualifierTag, S_BOOLEAN, F_BOOLEAN_code, E_BOOLEAN, F_BOOLEAN_qualifierTag, S_UNIQUE_ID, F_UNIQUE_ID_code, E_UNIQUE_ID, F_UNIQUE_ID_qualifierTag, S_SEQUENCE, F_SEQUENCE_code, E_SEQUENCE, F_SEQUENCE_qualifierTag, S_SET, F_SET_code, E_SET, F_SET_qualifierTag, S_INTEGER, F_INTEGER_code, E_INTEGER, F_INTEGER_qualifierTag, S_PADDING, F_PADDING_code, E_PADDING, F_PADDING_qualifierTag, S_PROPERTY_LIST, F_PROPERTY_LIST_code, E_PROPERTY_LIST, F_PROPERTY_LIST_qualifierTag, S_DATE, F_DATE_code, E_DATE, F_DATE_qualifierTag, S_BIT_STRING, F_BIT_STRING_code, E_BIT_STRING, F_BIT_STRING_qualifierTag, S_PROPERTY, F_PROPERTY_code, E_PROPERTY, F_PROPERTY_qualifierTag, S_COMPRESSED, F_COMPRESSED_code, E_COMPRESSED, F_COMPRESSED_qualifierTag, S_ENCRYPTED, F_ENCRYPTED_code, E_ENCRYPTED, F_ENCRYPTED_qualifierTag, S_FIELD, F_FIELD_code, E_FIELD, F_FIELD_qualifierTag, S_MESSAGE, F_MESSAGE_code, E_MESSAGE, F_MESSAGE_qualifierTag, S_EXTENSION, F_EXTENSION_code, E_EXTENSION, F_EXTENSION_qualifierTag, S_VENDOR_DEFINED, F_VENDOR_DEFINED_code, E_VENDOR_DEFINED, F_VENDOR_DEFINED_qualifierTag⟩ := id K
  refine MetFree.of_bodySF (plainFor_of_name pn0) hisR ?_
  intro p e s m args below meth c s₁ Bd hml0 hP hK
  obtain ⟨rfl, hZ, hh⟩ := hP
  have hx := Bd.exec
  have hby := Bd.bytes
  have hml : c.maxLocals = 1 := hml0
  have hown : s.vm.findClass "com/example/plainwire/plainwire/rfc806/ElementQualifiedPinLaw" = some m.cls := findClass_of_methodNamed Bd.named
  have X0 : Stand p l e ({ frames := 0, cells := 0, slots := 0, locals := 0 } : Room) s m #[(.int (11 : Int32))] below meth c s₁ [] 0 0 := Stand.of_body Bd
  have e0 : s₁.heap = h0 := by rw [← hh, Bd.state]; rfl
  have N0 := Fr.nil n0
  have pre0 : ∀ t, Steps p.tables e below (s₁.setTop (mkF m 0 #[.val (.int (11 : Int32))] [])) t → Steps p.tables e below (s₁.setTop (entryFrame m #[(.int (11 : Int32))] 1)) t := fun t k => castTop (by first | (simp [entryFrame, mkF, argsToLocals, Value.category]; done) | rfl) k
  obtain ⟨T1, X1, e1, st1⟩ := getS X0 hx hZ hown (host := "") (hw _ (List.mem_of_getElem? (i := 34) rfl)) Via.refl e0 S_BIT_STRING (g := (mkF m 109 #[.val (.int (11 : Int32))] [])) rfl (hb hby d0_109)
  obtain ⟨fs, hr, hrun, hended, hW, hsame⟩ := X1.leave (v := some (.ref s_BIT_STRING)) (fun h => by rw [Bd.returns] at h; cases h)
  refine ⟨_, _, pre0 _ ?_, hrun, hended, _, _, rfl, ?_, ⟨_, rfl⟩, hW, hsame.mono (by decide) (by decide)⟩
  · show Steps p.tables e below (s₁.setTop (mkF m 0 #[.val (.int (11 : Int32))] [])) _
    refine XS.iloadN X0.here hx rfl (hb hby d0_0) rfl ?_
    show Steps p.tables e below (s₁.setTop (mkF m 1 #[.val (.int (11 : Int32))] [(.int (11 : Int32))])) _
    refine XS.ifYes X0.here hx rfl (pc0 := 1) (pc' := 8) rfl (hb hby d0_1) rfl (by decide +kernel) (by decide) (by decide) ?_
    show Steps p.tables e below (s₁.setTop (mkF m 8 #[.val (.int (11 : Int32))] [])) _
    refine XS.iloadN X0.here hx rfl (hb hby d0_8) rfl ?_
    show Steps p.tables e below (s₁.setTop (mkF m 9 #[.val (.int (11 : Int32))] [(.int (11 : Int32))])) _
    refine XS.iconst X0.here hx rfl (hb hby d0_9) ?_
    show Steps p.tables e below (s₁.setTop (mkF m 10 #[.val (.int (11 : Int32))] [(.int (1 : Int32)), (.int (11 : Int32))])) _
    refine XS.icmpYes X0.here hx rfl (pc0 := 10) (pc' := 17) rfl (hb hby d0_10) rfl (by decide +kernel) (by decide) (by decide) ?_
    show Steps p.tables e below (s₁.setTop (mkF m 17 #[.val (.int (11 : Int32))] [])) _
    refine XS.iloadN X0.here hx rfl (hb hby d0_17) rfl ?_
    show Steps p.tables e below (s₁.setTop (mkF m 18 #[.val (.int (11 : Int32))] [(.int (11 : Int32))])) _
    refine XS.iconst X0.here hx rfl (hb hby d0_18) ?_
    show Steps p.tables e below (s₁.setTop (mkF m 19 #[.val (.int (11 : Int32))] [(.int (2 : Int32)), (.int (11 : Int32))])) _
    refine XS.icmpYes X0.here hx rfl (pc0 := 19) (pc' := 26) rfl (hb hby d0_19) rfl (by decide +kernel) (by decide) (by decide) ?_
    show Steps p.tables e below (s₁.setTop (mkF m 26 #[.val (.int (11 : Int32))] [])) _
    refine XS.iloadN X0.here hx rfl (hb hby d0_26) rfl ?_
    show Steps p.tables e below (s₁.setTop (mkF m 27 #[.val (.int (11 : Int32))] [(.int (11 : Int32))])) _
    refine XS.iconst X0.here hx rfl (hb hby d0_27) ?_
    show Steps p.tables e below (s₁.setTop (mkF m 28 #[.val (.int (11 : Int32))] [(.int (3 : Int32)), (.int (11 : Int32))])) _
    refine XS.icmpYes X0.here hx rfl (pc0 := 28) (pc' := 35) rfl (hb hby d0_28) rfl (by decide +kernel) (by decide) (by decide) ?_
    show Steps p.tables e below (s₁.setTop (mkF m 35 #[.val (.int (11 : Int32))] [])) _
    refine XS.iloadN X0.here hx rfl (hb hby d0_35) rfl ?_
    show Steps p.tables e below (s₁.setTop (mkF m 36 #[.val (.int (11 : Int32))] [(.int (11 : Int32))])) _
    refine XS.iconst X0.here hx rfl (hb hby d0_36) ?_
    show Steps p.tables e below (s₁.setTop (mkF m 37 #[.val (.int (11 : Int32))] [(.int (4 : Int32)), (.int (11 : Int32))])) _
    refine XS.icmpYes X0.here hx rfl (pc0 := 37) (pc' := 44) rfl (hb hby d0_37) rfl (by decide +kernel) (by decide) (by decide) ?_
    show Steps p.tables e below (s₁.setTop (mkF m 44 #[.val (.int (11 : Int32))] [])) _
    refine XS.iloadN X0.here hx rfl (hb hby d0_44) rfl ?_
    show Steps p.tables e below (s₁.setTop (mkF m 45 #[.val (.int (11 : Int32))] [(.int (11 : Int32))])) _
    refine XS.iconst X0.here hx rfl (hb hby d0_45) ?_
    show Steps p.tables e below (s₁.setTop (mkF m 46 #[.val (.int (11 : Int32))] [(.int (5 : Int32)), (.int (11 : Int32))])) _
    refine XS.icmpYes X0.here hx rfl (pc0 := 46) (pc' := 53) rfl (hb hby d0_46) rfl (by decide +kernel) (by decide) (by decide) ?_
    show Steps p.tables e below (s₁.setTop (mkF m 53 #[.val (.int (11 : Int32))] [])) _
    refine XS.iloadN X0.here hx rfl (hb hby d0_53) rfl ?_
    show Steps p.tables e below (s₁.setTop (mkF m 54 #[.val (.int (11 : Int32))] [(.int (11 : Int32))])) _
    refine XS.bipush X0.here hx rfl (hb hby d0_54) ?_
    show Steps p.tables e below (s₁.setTop (mkF m 56 #[.val (.int (11 : Int32))] [(.int (6 : Int32)), (.int (11 : Int32))])) _
    refine XS.icmpYes X0.here hx rfl (pc0 := 56) (pc' := 63) rfl (hb hby d0_56) rfl (by decide +kernel) (by decide) (by decide) ?_
    show Steps p.tables e below (s₁.setTop (mkF m 63 #[.val (.int (11 : Int32))] [])) _
    refine XS.iloadN X0.here hx rfl (hb hby d0_63) rfl ?_
    show Steps p.tables e below (s₁.setTop (mkF m 64 #[.val (.int (11 : Int32))] [(.int (11 : Int32))])) _
    refine XS.bipush X0.here hx rfl (hb hby d0_64) ?_
    show Steps p.tables e below (s₁.setTop (mkF m 66 #[.val (.int (11 : Int32))] [(.int (7 : Int32)), (.int (11 : Int32))])) _
    refine XS.icmpYes X0.here hx rfl (pc0 := 66) (pc' := 73) rfl (hb hby d0_66) rfl (by decide +kernel) (by decide) (by decide) ?_
    show Steps p.tables e below (s₁.setTop (mkF m 73 #[.val (.int (11 : Int32))] [])) _
    refine XS.iloadN X0.here hx rfl (hb hby d0_73) rfl ?_
    show Steps p.tables e below (s₁.setTop (mkF m 74 #[.val (.int (11 : Int32))] [(.int (11 : Int32))])) _
    refine XS.bipush X0.here hx rfl (hb hby d0_74) ?_
    show Steps p.tables e below (s₁.setTop (mkF m 76 #[.val (.int (11 : Int32))] [(.int (8 : Int32)), (.int (11 : Int32))])) _
    refine XS.icmpYes X0.here hx rfl (pc0 := 76) (pc' := 83) rfl (hb hby d0_76) rfl (by decide +kernel) (by decide) (by decide) ?_
    show Steps p.tables e below (s₁.setTop (mkF m 83 #[.val (.int (11 : Int32))] [])) _
    refine XS.iloadN X0.here hx rfl (hb hby d0_83) rfl ?_
    show Steps p.tables e below (s₁.setTop (mkF m 84 #[.val (.int (11 : Int32))] [(.int (11 : Int32))])) _
    refine XS.bipush X0.here hx rfl (hb hby d0_84) ?_
    show Steps p.tables e below (s₁.setTop (mkF m 86 #[.val (.int (11 : Int32))] [(.int (9 : Int32)), (.int (11 : Int32))])) _
    refine XS.icmpYes X0.here hx rfl (pc0 := 86) (pc' := 93) rfl (hb hby d0_86) rfl (by decide +kernel) (by decide) (by decide) ?_
    show Steps p.tables e below (s₁.setTop (mkF m 93 #[.val (.int (11 : Int32))] [])) _
    refine XS.iloadN X0.here hx rfl (hb hby d0_93) rfl ?_
    show Steps p.tables e below (s₁.setTop (mkF m 94 #[.val (.int (11 : Int32))] [(.int (11 : Int32))])) _
    refine XS.bipush X0.here hx rfl (hb hby d0_94) ?_
    show Steps p.tables e below (s₁.setTop (mkF m 96 #[.val (.int (11 : Int32))] [(.int (10 : Int32)), (.int (11 : Int32))])) _
    refine XS.icmpYes X0.here hx rfl (pc0 := 96) (pc' := 103) rfl (hb hby d0_96) rfl (by decide +kernel) (by decide) (by decide) ?_
    show Steps p.tables e below (s₁.setTop (mkF m 103 #[.val (.int (11 : Int32))] [])) _
    refine XS.iloadN X0.here hx rfl (hb hby d0_103) rfl ?_
    show Steps p.tables e below (s₁.setTop (mkF m 104 #[.val (.int (11 : Int32))] [(.int (11 : Int32))])) _
    refine XS.bipush X0.here hx rfl (hb hby d0_104) ?_
    show Steps p.tables e below (s₁.setTop (mkF m 106 #[.val (.int (11 : Int32))] [(.int (11 : Int32)), (.int (11 : Int32))])) _
    refine XS.icmpNo X0.here hx rfl (hb hby d0_106) rfl (by decide +kernel) ?_
    show Steps p.tables e below (s₁.setTop (mkF m 109 #[.val (.int (11 : Int32))] [])) _
    refine st1 _ ?_
    show Steps p.tables e below (T1.setTop (mkF m 112 #[.val (.int (11 : Int32))] [(.ref s_BIT_STRING)])) _
    exact retOut X1 hx (i := .areturn) Bd.returns rfl (Or.inr (Or.inr (Or.inr (Or.inr ⟨rfl, rfl, rfl⟩)))) (hb hby d0_112) hr
  · exact ⟨rfl, N0, e1⟩
set_option maxRecDepth 65536 in
set_option maxHeartbeats 40000000 in
theorem r45 (l : Launch) (Z : State) (a0 : Array Value) (hw : ∀ d ∈ tables_1, d.before a0 Z = true) (ws : List Jvm.Cond) (h0 : Heap) (n0 : Nat) (s_NO_OP : Addr) (s_END_OF_CONSTRUCTOR : Addr) (s_ASCII_STRING : Addr) (s_BOOLEAN : Addr) (s_UNIQUE_ID : Addr) (s_SEQUENCE : Addr) (s_SET : Addr) (s_INTEGER : Addr) (s_PADDING : Addr) (s_PROPERTY_LIST : Addr) (s_DATE : Addr) (s_BIT_STRING : Addr) (t_BIT_STRING_qualifierTag : Addr) (s_PROPERTY : Addr) (s_FIELD : Addr) (t_FIELD_qualifierTag : Addr) (s_COMPRESSED : Addr) (s_ENCRYPTED : Addr) (t_ENCRYPTED_qualifierTag : Addr) (s_MESSAGE : Addr) (t_MESSAGE_qualifierTag : Addr) (s_EXTENSION : Addr) (s_VENDOR_DEFINED : Addr) (K : Ctx Z h0 s_NO_OP s_END_OF_CONSTRUCTOR s_ASCII_STRING s_BOOLEAN s_UNIQUE_ID s_SEQUENCE s_SET s_INTEGER s_PADDING s_PROPERTY_LIST s_DATE s_BIT_STRING t_BIT_STRING_qualifierTag s_PROPERTY s_FIELD t_FIELD_qualifierTag s_COMPRESSED s_ENCRYPTED t_ENCRYPTED_qualifierTag s_MESSAGE t_MESSAGE_qualifierTag s_EXTENSION s_VENDOR_DEFINED) :
    MetFree l (⟨"com/example/plainwire/plainwire/rfc806/Element", "qualified", "()Z"⟩ : MethodName) (head1 (Jvm.Cond.code (⟨"com/example/plainwire/plainwire/rfc806/Element", "qualified", "()Z"⟩ : MethodName) prog_101_method_9_code 1 (some .boolean) :: ws) ({ frames := 0, cells := 0, slots := 0, locals := 0 } : Room)) (fun a U => a = #[(.ref s_BIT_STRING)] ∧ Z.Warmed39 U.vm ∧ U.heap = h0) (fun _ _ _ _ _ => True) (fun _ U o U' => ∃ v L, o = .returned v ∧ QV (.int (1 : Int32)) h0 n0 v U'.heap L ∧ FrameEnd U o U' L ({ frames := 0, cells := 0, slots := 0, locals := 0 } : Room).cells ({ frames := 0, cells := 0, slots := 0, locals := 0 } : Room).slots) := by
  obtain ⟨S_NO_OP, F_NO_OP_code, E_NO_OP, F_NO_OP_qualifierTag, S_END_OF_CONSTRUCTOR, F_END_OF_CONSTRUCTOR_code, E_END_OF_CONSTRUCTOR, F_END_OF_CONSTRUCTOR_qualifierTag, S_ASCII_STRING, F_ASCII_STRING_code, E_ASCII_STRING, F_ASCII_STRING_qualifierTag, S_BOOLEAN, F_BOOLEAN_code, E_BOOLEAN, F_BOOLEAN_qualifierTag, S_UNIQUE_ID, F_UNIQUE_ID_code, E_UNIQUE_ID, F_UNIQUE_ID_qualifierTag, S_SEQUENCE, F_SEQUENCE_code, E_SEQUENCE, F_SEQUENCE_qualifierTag, S_SET, F_SET_code, E_SET, F_SET_qualifierTag, S_INTEGER, F_INTEGER_code, E_INTEGER, F_INTEGER_qualifierTag, S_PADDING, F_PADDING_code, E_PADDING, F_PADDING_qualifierTag, S_PROPERTY_LIST, F_PROPERTY_LIST_code, E_PROPERTY_LIST, F_PROPERTY_LIST_qualifierTag, S_DATE, F_DATE_code, E_DATE, F_DATE_qualifierTag, S_BIT_STRING, F_BIT_STRING_code, E_BIT_STRING, F_BIT_STRING_qualifierTag, S_PROPERTY, F_PROPERTY_code, E_PROPERTY, F_PROPERTY_qualifierTag, S_COMPRESSED, F_COMPRESSED_code, E_COMPRESSED, F_COMPRESSED_qualifierTag, S_ENCRYPTED, F_ENCRYPTED_code, E_ENCRYPTED, F_ENCRYPTED_qualifierTag, S_FIELD, F_FIELD_code, E_FIELD, F_FIELD_qualifierTag, S_MESSAGE, F_MESSAGE_code, E_MESSAGE, F_MESSAGE_qualifierTag, S_EXTENSION, F_EXTENSION_code, E_EXTENSION, F_EXTENSION_qualifierTag, S_VENDOR_DEFINED, F_VENDOR_DEFINED_code, E_VENDOR_DEFINED, F_VENDOR_DEFINED_qualifierTag⟩ := id K
  refine MetFree.of_bodySF (plainFor_of_name pn1) hisR ?_
  intro p e s m args below meth c s₁ Bd hml0 hP hK
  obtain ⟨rfl, hZ, hh⟩ := hP
  have hx := Bd.exec
  have hby := Bd.bytes
  have hml : c.maxLocals = 1 := hml0
  have hown : s.vm.findClass "com/example/plainwire/plainwire/rfc806/Element" = some m.cls := findClass_of_methodNamed Bd.named
  have X0 : Stand p l e ({ frames := 0, cells := 0, slots := 0, locals := 0 } : Room) s m #[(.ref s_BIT_STRING)] below meth c s₁ [] 0 0 := Stand.of_body Bd
  have e0 : s₁.heap = h0 := by rw [← hh, Bd.state]; rfl
  have N0 := Fr.nil n0
  have pre0 : ∀ t, Steps p.tables e below (s₁.setTop (mkF m 0 #[.val (.ref s_BIT_STRING)] [])) t → Steps p.tables e below (s₁.setTop (entryFrame m #[(.ref s_BIT_STRING)] 1)) t := fun t k => castTop (by first | (simp [entryFrame, mkF, argsToLocals, Value.category]; done) | rfl) k
  obtain ⟨T1, X1, e1, st1⟩ := getF X0 hx hZ hown (host := "") (Or.inl (hw _ (List.mem_of_getElem? (i := 13) rfl))) Via.refl e0 F_BIT_STRING_code (g := (mkF m 1 #[.val (.ref s_BIT_STRING)] [(.ref s_BIT_STRING)])) rfl rfl (hb hby d1_1)
  obtain ⟨fs, hr, hrun, hended, hW, hsame⟩ := X1.leave (v := some (.int (1 : Int32))) (fun h => by rw [Bd.returns] at h; cases h)
  refine ⟨_, _, pre0 _ ?_, hrun, hended, _, _, rfl, ?_, ⟨_, rfl⟩, hW, hsame.mono (by decide) (by decide)⟩
  · show Steps p.tables e below (s₁.setTop (mkF m 0 #[.val (.ref s_BIT_STRING)] [])) _
    refine XS.aloadN X0.here hx rfl (hb hby d1_0) rfl rfl ?_
    show Steps p.tables e below (s₁.setTop (mkF m 1 #[.val (.ref s_BIT_STRING)] [(.ref s_BIT_STRING)])) _
    refine st1 _ ?_
    show Steps p.tables e below (T1.setTop (mkF m 4 #[.val (.ref s_BIT_STRING)] [(.int (67 : Int32))])) _
    refine XS.bipush X1.here hx rfl (hb hby d1_4) ?_
    show Steps p.tables e below (T1.setTop (mkF m 6 #[.val (.ref s_BIT_STRING)] [(.int (64 : Int32)), (.int (67 : Int32))])) _
    refine XS.iand X1.here hx rfl (hb hby d1_6) rfl ?_
    show Steps p.tables e below (T1.setTop (mkF m 7 #[.val (.ref s_BIT_STRING)] [(.int ((67 : Int32) &&& (64 : Int32)))])) _
    rw [show ((67 : Int32) &&& (64 : Int32)) = (64 : Int32) from by decide +kernel]
    show Steps p.tables e below (T1.setTop (mkF m 7 #[.val (.ref s_BIT_STRING)] [(.int (64 : Int32))])) _
    refine XS.ifNo X1.here hx rfl (hb hby d1_7) rfl (by decide +kernel) ?_
    show Steps p.tables e below (T1.setTop (mkF m 10 #[.val (.ref s_BIT_STRING)] [])) _
    refine XS.iconst X1.here hx rfl (hb hby d1_10) ?_
    show Steps p.tables e below (T1.setTop (mkF m 11 #[.val (.ref s_BIT_STRING)] [(.int (1 : Int32))])) _
    refine XS.goto X1.here hx rfl (pc0 := 11) (pc' := 15) rfl (hb hby d1_11) (by decide) (by decide) ?_
    show Steps p.tables e below (T1.setTop (mkF m 15 #[.val (.ref s_BIT_STRING)] [(.int (1 : Int32))])) _
    exact retN X1 hx (t := .boolean) Bd.returns (by simp) (hb hby d1_15) hr
  · exact ⟨rfl, N0, e1⟩
set_option maxRecDepth 65536 in
set_option maxHeartbeats 40000000 in
theorem r46 (l : Launch) (Z : State) (a0 : Array Value) (hw : ∀ d ∈ tables_1, d.before a0 Z = true) (ws : List Jvm.Cond) (h0 : Heap) (n0 : Nat) (s_NO_OP : Addr) (s_END_OF_CONSTRUCTOR : Addr) (s_ASCII_STRING : Addr) (s_BOOLEAN : Addr) (s_UNIQUE_ID : Addr) (s_SEQUENCE : Addr) (s_SET : Addr) (s_INTEGER : Addr) (s_PADDING : Addr) (s_PROPERTY_LIST : Addr) (s_DATE : Addr) (s_BIT_STRING : Addr) (t_BIT_STRING_qualifierTag : Addr) (s_PROPERTY : Addr) (s_FIELD : Addr) (t_FIELD_qualifierTag : Addr) (s_COMPRESSED : Addr) (s_ENCRYPTED : Addr) (t_ENCRYPTED_qualifierTag : Addr) (s_MESSAGE : Addr) (t_MESSAGE_qualifierTag : Addr) (s_EXTENSION : Addr) (s_VENDOR_DEFINED : Addr) (K : Ctx Z h0 s_NO_OP s_END_OF_CONSTRUCTOR s_ASCII_STRING s_BOOLEAN s_UNIQUE_ID s_SEQUENCE s_SET s_INTEGER s_PADDING s_PROPERTY_LIST s_DATE s_BIT_STRING t_BIT_STRING_qualifierTag s_PROPERTY s_FIELD t_FIELD_qualifierTag s_COMPRESSED s_ENCRYPTED t_ENCRYPTED_qualifierTag s_MESSAGE t_MESSAGE_qualifierTag s_EXTENSION s_VENDOR_DEFINED) :
    MetFree l (⟨"com/example/plainwire/plainwire/rfc806/Element", "qualifierTag", "()Ljava/lang/String;"⟩ : MethodName) (head1 (Jvm.Cond.code (⟨"com/example/plainwire/plainwire/rfc806/Element", "qualifierTag", "()Ljava/lang/String;"⟩ : MethodName) prog_101_method_10_code 1 (some (.object "java/lang/String")) :: ws) ({ frames := 0, cells := 0, slots := 0, locals := 0 } : Room)) (fun a U => a = #[(.ref s_BIT_STRING)] ∧ Z.Warmed39 U.vm ∧ U.heap = h0) (fun _ _ _ _ _ => True) (fun _ U o U' => ∃ v L, o = .returned v ∧ QV (.ref t_BIT_STRING_qualifierTag) h0 n0 v U'.heap L ∧ FrameEnd U o U' L ({ frames := 0, cells := 0, slots := 0, locals := 0 } : Room).cells ({ frames := 0, cells := 0, slots := 0, locals := 0 } : Room).slots) := by
  obtain ⟨S_NO_OP, F_NO_OP_code, E_NO_OP, F_NO_OP_qualifierTag, S_END_OF_CONSTRUCTOR, F_END_OF_CONSTRUCTOR_code, E_END_OF_CONSTRUCTOR, F_END_OF_CONSTRUCTOR_qualifierTag, S_ASCII_STRING, F_ASCII_STRING_code, E_ASCII_STRING, F_ASCII_STRING_qualifierTag, S_BOOLEAN, F_BOOLEAN_code, E_BOOLEAN, F_BOOLEAN_qualifierTag, S_UNIQUE_ID, F_UNIQUE_ID_code, E_UNIQUE_ID, F_UNIQUE_ID_qualifierTag, S_SEQUENCE, F_SEQUENCE_code, E_SEQUENCE, F_SEQUENCE_qualifierTag, S_SET, F_SET_code, E_SET, F_SET_qualifierTag, S_INTEGER, F_INTEGER_code, E_INTEGER, F_INTEGER_qualifierTag, S_PADDING, F_PADDING_code, E_PADDING, F_PADDING_qualifierTag, S_PROPERTY_LIST, F_PROPERTY_LIST_code, E_PROPERTY_LIST, F_PROPERTY_LIST_qualifierTag, S_DATE, F_DATE_code, E_DATE, F_DATE_qualifierTag, S_BIT_STRING, F_BIT_STRING_code, E_BIT_STRING, F_BIT_STRING_qualifierTag, S_PROPERTY, F_PROPERTY_code, E_PROPERTY, F_PROPERTY_qualifierTag, S_COMPRESSED, F_COMPRESSED_code, E_COMPRESSED, F_COMPRESSED_qualifierTag, S_ENCRYPTED, F_ENCRYPTED_code, E_ENCRYPTED, F_ENCRYPTED_qualifierTag, S_FIELD, F_FIELD_code, E_FIELD, F_FIELD_qualifierTag, S_MESSAGE, F_MESSAGE_code, E_MESSAGE, F_MESSAGE_qualifierTag, S_EXTENSION, F_EXTENSION_code, E_EXTENSION, F_EXTENSION_qualifierTag, S_VENDOR_DEFINED, F_VENDOR_DEFINED_code, E_VENDOR_DEFINED, F_VENDOR_DEFINED_qualifierTag⟩ := id K
  refine MetFree.of_bodySF (plainFor_of_name pn2) hisR ?_
  intro p e s m args below meth c s₁ Bd hml0 hP hK
  obtain ⟨rfl, hZ, hh⟩ := hP
  have hx := Bd.exec
  have hby := Bd.bytes
  have hml : c.maxLocals = 1 := hml0
  have hown : s.vm.findClass "com/example/plainwire/plainwire/rfc806/Element" = some m.cls := findClass_of_methodNamed Bd.named
  have X0 : Stand p l e ({ frames := 0, cells := 0, slots := 0, locals := 0 } : Room) s m #[(.ref s_BIT_STRING)] below meth c s₁ [] 0 0 := Stand.of_body Bd
  have e0 : s₁.heap = h0 := by rw [← hh, Bd.state]; rfl
  have N0 := Fr.nil n0
  have pre0 : ∀ t, Steps p.tables e below (s₁.setTop (mkF m 0 #[.val (.ref s_BIT_STRING)] [])) t → Steps p.tables e below (s₁.setTop (entryFrame m #[(.ref s_BIT_STRING)] 1)) t := fun t k => castTop (by first | (simp [entryFrame, mkF, argsToLocals, Value.category]; done) | rfl) k
  obtain ⟨T1, X1, e1, st1⟩ := getF X0 hx hZ hown (host := "") (Or.inl (hw _ (List.mem_of_getElem? (i := 20) rfl))) Via.refl e0 F_BIT_STRING_qualifierTag (g := (mkF m 1 #[.val (.ref s_BIT_STRING)] [(.ref s_BIT_STRING)])) rfl rfl (hb hby d2_1)
  obtain ⟨fs, hr, hrun, hended, hW, hsame⟩ := X1.leave (v := some (.ref t_BIT_STRING_qualifierTag)) (fun h => by rw [Bd.returns] at h; cases h)
  refine ⟨_, _, pre0 _ ?_, hrun, hended, _, _, rfl, ?_, ⟨_, rfl⟩, hW, hsame.mono (by decide) (by decide)⟩
  · show Steps p.tables e below (s₁.setTop (mkF m 0 #[.val (.ref s_BIT_STRING)] [])) _
    refine XS.aloadN X0.here hx rfl (hb hby d2_0) rfl rfl ?_
    show Steps p.tables e below (s₁.setTop (mkF m 1 #[.val (.ref s_BIT_STRING)] [(.ref s_BIT_STRING)])) _
    refine st1 _ ?_
    show Steps p.tables e below (T1.setTop (mkF m 4 #[.val (.ref s_BIT_STRING)] [(.ref t_BIT_STRING_qualifierTag)])) _
    exact retOut X1 hx (i := .areturn) Bd.returns rfl (Or.inr (Or.inr (Or.inr (Or.inr ⟨rfl, rfl, rfl⟩)))) (hb hby d2_4) hr
  · exact ⟨rfl, N0, e1⟩
set_option maxRecDepth 65536 in
set_option maxHeartbeats 40000000 in
theorem law_k11 (l : Launch) (Z : State) (a0 : Array Value) (hw : ∀ d ∈ tables_1, d.before a0 Z = true) (ws : List Jvm.Cond) (h0 : Heap) (n0 : Nat) (s_NO_OP : Addr) (s_END_OF_CONSTRUCTOR : Addr) (s_ASCII_STRING : Addr) (s_BOOLEAN : Addr) (s_UNIQUE_ID : Addr) (s_SEQUENCE : Addr) (s_SET : Addr) (s_INTEGER : Addr) (s_PADDING : Addr) (s_PROPERTY_LIST : Addr) (s_DATE : Addr) (s_BIT_STRING : Addr) (t_BIT_STRING_qualifierTag : Addr) (s_PROPERTY : Addr) (s_FIELD : Addr) (t_FIELD_qualifierTag : Addr) (s_COMPRESSED : Addr) (s_ENCRYPTED : Addr) (t_ENCRYPTED_qualifierTag : Addr) (s_MESSAGE : Addr) (t_MESSAGE_qualifierTag : Addr) (s_EXTENSION : Addr) (s_VENDOR_DEFINED : Addr) (K : Ctx Z h0 s_NO_OP s_END_OF_CONSTRUCTOR s_ASCII_STRING s_BOOLEAN s_UNIQUE_ID s_SEQUENCE s_SET s_INTEGER s_PADDING s_PROPERTY_LIST s_DATE s_BIT_STRING t_BIT_STRING_qualifierTag s_PROPERTY s_FIELD t_FIELD_qualifierTag s_COMPRESSED s_ENCRYPTED t_ENCRYPTED_qualifierTag s_MESSAGE t_MESSAGE_qualifierTag s_EXTENSION s_VENDOR_DEFINED) (p0 : Int32) (hp0 : ((p0 &&& (2147483647 : Int32)) % (19 : Int32)) = (11 : Int32)) :
    MetFree l x (head1 (Jvm.Cond.code x code maxLocals ret :: ws) room_1) (fun a U => a = #[(.int p0)] ∧ Z.Warmed39 U.vm ∧ U.heap = h0) (fun _ _ _ _ _ => True) (fun _ U o U' => ∃ v L, o = .returned v ∧ QV (.int (1 : Int32)) h0 n0 v U'.heap L ∧ FrameEnd U o U' L room_1.cells room_1.slots) := by
  obtain ⟨S_NO_OP, F_NO_OP_code, E_NO_OP, F_NO_OP_qualifierTag, S_END_OF_CONSTRUCTOR, F_END_OF_CONSTRUCTOR_code, E_END_OF_CONSTRUCTOR, F_END_OF_CONSTRUCTOR_qualifierTag, S_ASCII_STRING, F_ASCII_STRING_code, E_ASCII_STRING, F_ASCII_STRING_qualifierTag, S_BOOLEAN, F_BOOLEAN_code, E_BOOLEAN, F_BOOLEAN_qualifierTag, S_UNIQUE_ID, F_UNIQUE_ID_code, E_UNIQUE_ID, F_UNIQUE_ID_qualifierTag, S_SEQUENCE, F_SEQUENCE_code, E_SEQUENCE, F_SEQUENCE_qualifierTag, S_SET, F_SET_code, E_SET, F_SET_qualifierTag, S_INTEGER, F_INTEGER_code, E_INTEGER, F_INTEGER_qualifierTag, S_PADDING, F_PADDING_code, E_PADDING, F_PADDING_qualifierTag, S_PROPERTY_LIST, F_PROPERTY_LIST_code, E_PROPERTY_LIST, F_PROPERTY_LIST_qualifierTag, S_DATE, F_DATE_code, E_DATE, F_DATE_qualifierTag, S_BIT_STRING, F_BIT_STRING_code, E_BIT_STRING, F_BIT_STRING_qualifierTag, S_PROPERTY, F_PROPERTY_code, E_PROPERTY, F_PROPERTY_qualifierTag, S_COMPRESSED, F_COMPRESSED_code, E_COMPRESSED, F_COMPRESSED_qualifierTag, S_ENCRYPTED, F_ENCRYPTED_code, E_ENCRYPTED, F_ENCRYPTED_qualifierTag, S_FIELD, F_FIELD_code, E_FIELD, F_FIELD_qualifierTag, S_MESSAGE, F_MESSAGE_code, E_MESSAGE, F_MESSAGE_qualifierTag, S_EXTENSION, F_EXTENSION_code, E_EXTENSION, F_EXTENSION_qualifierTag, S_VENDOR_DEFINED, F_VENDOR_DEFINED_code, E_VENDOR_DEFINED, F_VENDOR_DEFINED_qualifierTag⟩ := id K
  refine MetFree.of_bodySF (plainFor_of_name pn3) hisR ?_
  intro p e s m args below meth c s₁ Bd hml0 hP hK
  obtain ⟨rfl, hZ, hh⟩ := hP
  have hx := Bd.exec
  have hby := Bd.bytes
  have hml : c.maxLocals = 6 := hml0
  have hown : s.vm.findClass "com/example/plainwire/plainwire/rfc806/ElementQualifiedPinLaw" = some m.cls := findClass_of_methodNamed Bd.named
  have X0 : Stand p l e room_1 s m #[(.int p0)] below meth c s₁ [] 0 0 := Stand.of_body Bd
  have e0 : s₁.heap = h0 := by rw [← hh, Bd.state]; rfl
  have N0 := Fr.nil n0
  have pre0 : ∀ t, Steps p.tables e below (s₁.setTop (mkF m 0 #[.val (.int p0), .unset, .unset, .unset, .unset, .unset] [])) t → Steps p.tables e below (s₁.setTop (entryFrame m #[(.int p0)] maxLocals)) t := fun t k => castTop (by first | (simp [entryFrame, mkF, argsToLocals, Value.category, maxLocals]; done) | rfl) k
  obtain ⟨_, _, ⟨T1, L1, k1, n1⟩, -, X1, ⟨Lc1, hQ1, l1, y1, z1⟩, st1⟩ := Jvm.LawKit.callS X0 hx (y := (⟨"com/example/plainwire/plainwire/rfc806/ElementQualifiedPinLaw", "pick", "(I)Lcom/example/plainwire/plainwire/rfc806/Element;"⟩ : MethodName)) hown (mvT hZ (hw _ (List.mem_of_getElem? (i := 1) rfl))) (mvT hZ (hw _ (List.mem_of_getElem? (i := 2) rfl))) (mvT hZ (hw _ (List.mem_of_getElem? (i := 3) rfl))) (mvT hZ (hw _ (List.mem_of_getElem? (i := 4) rfl))) (by decide) (backOf (W := 0) (r44 l Z a0 hw [] h0 n0 s_NO_OP s_END_OF_CONSTRUCTOR s_ASCII_STRING s_BOOLEAN s_UNIQUE_ID s_SEQUENCE s_SET s_INTEGER s_PADDING s_PROPERTY_LIST s_DATE s_BIT_STRING t_BIT_STRING_qualifierTag s_PROPERTY s_FIELD t_FIELD_qualifierTag s_COMPRESSED s_ENCRYPTED t_ENCRYPTED_qualifierTag s_MESSAGE t_MESSAGE_qualifierTag s_EXTENSION s_VENDOR_DEFINED K) hZ (hw _ (List.mem_of_getElem? (i := 4) rfl)) (hw _ (List.mem_of_getElem? (i := 3) rfl)) (by decide) (by decide)) (g := (mkF m 9 #[.val (.int p0), .val (.int (11 : Int32)), .unset, .unset, .unset, .unset] [(.int (11 : Int32))])) rfl (by rw [hml]; rfl) (argsL := [(.int (11 : Int32))]) (rest := []) (lenOf pd0 rfl) rfl (by show 2 * 0 + _ ≤ _; exact Nat.le_of_eq rfl) (hb hby at_9) (fun _ _ => ⟨rfl, e0, (by decide : 0 + 0 ≤ _), (by decide : 0 + 0 ≤ _)⟩)
  dsimp only [Pt.U, Pt.locs, Pt.cells, Pt.slots] at X1 l1 y1 z1 st1 hQ1
  subst l1 y1 z1
  obtain ⟨rfl, N1q, e1⟩ := hQ1
  have N1 := Fr.app N0 N1q
  obtain ⟨cq2, kq2, q2a, q2b, q2c⟩ := isOf hZ e1 E_BIT_STRING
  obtain ⟨_, _, ⟨T2, L2, k2, n2⟩, -, X2, ⟨Lc2, hQ2, l2, y2, z2⟩, st2⟩ := X1.virtualBack hx (y := (⟨"com/example/plainwire/plainwire/rfc806/Element", "qualified", "()Z"⟩ : MethodName)) (z := (⟨"com/example/plainwire/plainwire/rfc806/Element", "qualified", "()Z"⟩ : MethodName)) hown (mvT hZ (hw _ (List.mem_of_getElem? (i := 8) rfl))) (mvT hZ (hw _ (List.mem_of_getElem? (i := 9) rfl))) (notFace_of_selects (args := #[]) (mvT hZ (hw _ (List.mem_of_getElem? (i := 11) rfl)))) (mvT hZ (hw _ (List.mem_of_getElem? (i := 11) rfl))) (mvT hZ (hw _ (List.mem_of_getElem? (i := 10) rfl))) (by decide) (backOf (W := 0) (r45 l Z a0 hw [] h0 n0 s_NO_OP s_END_OF_CONSTRUCTOR s_ASCII_STRING s_BOOLEAN s_UNIQUE_ID s_SEQUENCE s_SET s_INTEGER s_PADDING s_PROPERTY_LIST s_DATE s_BIT_STRING t_BIT_STRING_qualifierTag s_PROPERTY s_FIELD t_FIELD_qualifierTag s_COMPRESSED s_ENCRYPTED t_ENCRYPTED_qualifierTag s_MESSAGE t_MESSAGE_qualifierTag s_EXTENSION s_VENDOR_DEFINED K) hZ (hw _ (List.mem_of_getElem? (i := 12) rfl)) (hw _ (List.mem_of_getElem? (i := 6) rfl)) (by decide) (by decide)) q2a q2c (g := (mkF m 26 #[.val (.int p0), .val (.int (11 : Int32)), .val (.ref s_BIT_STRING), .val (.int (1 : Int32)), .unset, .unset] [(.ref s_BIT_STRING)])) rfl (by rw [hml]; rfl) (Steps.refl _) (argsL := []) (rest := []) (lenOf pd1 rfl) rfl (by show 2 * 0 + _ ≤ _; exact Nat.le_of_eq rfl) (hb hby at_26) (fun _ _ => ⟨rfl, e1, (by decide : 0 + 0 ≤ _), (by decide : 0 + 0 ≤ _)⟩)
  dsimp only [Pt.U, Pt.locs, Pt.cells, Pt.slots] at X2 l2 y2 z2 st2 hQ2
  subst l2 y2 z2
  obtain ⟨rfl, N2q, e2⟩ := hQ2
  have N2 := Fr.app N1 N2q
  obtain ⟨cq3, kq3, q3a, q3b, q3c⟩ := isOf hZ e2 E_BIT_STRING
  obtain ⟨_, _, ⟨T3, L3, k3, n3⟩, -, X3, ⟨Lc3, hQ3, l3, y3, z3⟩, st3⟩ := X2.virtualBack hx (y := (⟨"com/example/plainwire/plainwire/rfc806/Element", "qualifierTag", "()Ljava/lang/String;"⟩ : MethodName)) (z := (⟨"com/example/plainwire/plainwire/rfc806/Element", "qualifierTag", "()Ljava/lang/String;"⟩ : MethodName)) hown (mvT hZ (hw _ (List.mem_of_getElem? (i := 15) rfl))) (mvT hZ (hw _ (List.mem_of_getElem? (i := 16) rfl))) (notFace_of_selects (args := #[]) (mvT hZ (hw _ (List.mem_of_getElem? (i := 18) rfl)))) (mvT hZ (hw _ (List.mem_of_getElem? (i := 18) rfl))) (mvT hZ (hw _ (List.mem_of_getElem? (i := 17) rfl))) (by decide) (backOf (W := 0) (r46 l Z a0 hw [] h0 n0 s_NO_OP s_END_OF_CONSTRUCTOR s_ASCII_STRING s_BOOLEAN s_UNIQUE_ID s_SEQUENCE s_SET s_INTEGER s_PADDING s_PROPERTY_LIST s_DATE s_BIT_STRING t_BIT_STRING_qualifierTag s_PROPERTY s_FIELD t_FIELD_qualifierTag s_COMPRESSED s_ENCRYPTED t_ENCRYPTED_qualifierTag s_MESSAGE t_MESSAGE_qualifierTag s_EXTENSION s_VENDOR_DEFINED K) hZ (hw _ (List.mem_of_getElem? (i := 19) rfl)) (hw _ (List.mem_of_getElem? (i := 6) rfl)) (by decide) (by decide)) q3a q3c (g := (mkF m 32 #[.val (.int p0), .val (.int (11 : Int32)), .val (.ref s_BIT_STRING), .val (.int (1 : Int32)), .val (.int (1 : Int32)), .unset] [(.ref s_BIT_STRING)])) rfl (by rw [hml]; rfl) (Steps.refl _) (argsL := []) (rest := []) (lenOf pd2 rfl) rfl (by show 2 * 0 + _ ≤ _; exact Nat.le_of_eq rfl) (hb hby at_32) (fun _ _ => ⟨rfl, e2, (by decide : 0 + 0 ≤ _), (by decide : 0 + 0 ≤ _)⟩)
  dsimp only [Pt.U, Pt.locs, Pt.cells, Pt.slots] at X3 l3 y3 z3 st3 hQ3
  subst l3 y3 z3
  obtain ⟨rfl, N3q, e3⟩ := hQ3
  have N3 := Fr.app N2 N3q
  obtain ⟨fs, hr, hrun, hended, hW, hsame⟩ := X3.leave (v := some (.int (1 : Int32))) (fun h => by rw [Bd.returns] at h; cases h)
  refine ⟨_, _, pre0 _ ?_, hrun, hended, _, _, rfl, ?_, ⟨_, rfl⟩, hW, hsame.mono (by decide) (by decide)⟩
  · show Steps p.tables e below (s₁.setTop (mkF m 0 #[.val (.int p0), .unset, .unset, .unset, .unset, .unset] [])) _
    refine XS.iloadN X0.here hx rfl (hb hby at_0) rfl ?_
    show Steps p.tables e below (s₁.setTop (mkF m 1 #[.val (.int p0), .unset, .unset, .unset, .unset, .unset] [(.int p0)])) _
    refine X0.ldcInt hx hown (mvT hZ (hw _ (List.mem_of_getElem? (i := 0) rfl))) (g := (mkF m 1 #[.val (.int p0), .unset, .unset, .unset, .unset, .unset] [(.int p0)])) rfl (hb hby at_1) _ ?_
    show Steps p.tables e below (s₁.setTop (mkF m 3 #[.val (.int p0), .unset, .unset, .unset, .unset, .unset] [(.int (2147483647 : Int32)), (.int p0)])) _
    refine XS.iand X0.here hx rfl (hb hby at_3) rfl ?_
    show Steps p.tables e below (s₁.setTop (mkF m 4 #[.val (.int p0), .unset, .unset, .unset, .unset, .unset] [(.int (p0 &&& (2147483647 : Int32)))])) _
    refine XS.bipush X0.here hx rfl (hb hby at_4) ?_
    show Steps p.tables e below (s₁.setTop (mkF m 6 #[.val (.int p0), .unset, .unset, .unset, .unset, .unset] [(.int (19 : Int32)), (.int (p0 &&& (2147483647 : Int32)))])) _
    refine Jvm.RoadKit.iremM X0 hx rfl (hb hby at_6) rfl (by decide) ?_
    show Steps p.tables e below (s₁.setTop (mkF m 7 #[.val (.int p0), .unset, .unset, .unset, .unset, .unset] [(.int ((p0 &&& (2147483647 : Int32)) % (19 : Int32)))])) _
    rw [hp0]
    show Steps p.tables e below (s₁.setTop (mkF m 7 #[.val (.int p0), .unset, .unset, .unset, .unset, .unset] [(.int (11 : Int32))])) _
    refine XS.istoreN X0.here hx rfl (hb hby at_7) rfl (l' := #[.val (.int p0), .val (.int (11 : Int32)), .unset, .unset, .unset, .unset]) rfl ?_
    show Steps p.tables e below (s₁.setTop (mkF m 8 #[.val (.int p0), .val (.int (11 : Int32)), .unset, .unset, .unset, .unset] [])) _
    refine XS.iloadN X0.here hx rfl (hb hby at_8) rfl ?_
    show Steps p.tables e below (s₁.setTop (mkF m 9 #[.val (.int p0), .val (.int (11 : Int32)), .unset, .unset, .unset, .unset] [(.int (11 : Int32))])) _
    refine st1 _ ?_
    show Steps p.tables e below (T1.setTop (mkF m 12 #[.val (.int p0), .val (.int (11 : Int32)), .unset, .unset, .unset, .unset] [(.ref s_BIT_STRING)])) _
    refine XS.astoreN X1.here hx rfl (hb hby at_12) rfl rfl (l' := #[.val (.int p0), .val (.int (11 : Int32)), .val (.ref s_BIT_STRING), .unset, .unset, .unset]) rfl ?_
    show Steps p.tables e below (T1.setTop (mkF m 13 #[.val (.int p0), .val (.int (11 : Int32)), .val (.ref s_BIT_STRING), .unset, .unset, .unset] [])) _
    refine XS.iloadN X1.here hx rfl (hb hby at_13) rfl ?_
    show Steps p.tables e below (T1.setTop (mkF m 14 #[.val (.int p0), .val (.int (11 : Int32)), .val (.ref s_BIT_STRING), .unset, .unset, .unset] [(.int (11 : Int32))])) _
    refine XS.bipush X1.here hx rfl (hb hby at_14) ?_
    show Steps p.tables e below (T1.setTop (mkF m 16 #[.val (.int p0), .val (.int (11 : Int32)), .val (.ref s_BIT_STRING), .unset, .unset, .unset] [(.int (11 : Int32)), (.int (11 : Int32))])) _
    refine XS.icmpNo X1.here hx rfl (hb hby at_16) rfl (by decide +kernel) ?_
    show Steps p.tables e below (T1.setTop (mkF m 19 #[.val (.int p0), .val (.int (11 : Int32)), .val (.ref s_BIT_STRING), .unset, .unset, .unset] [])) _
    refine XS.iconst X1.here hx rfl (hb hby at_19) ?_
    show Steps p.tables e below (T1.setTop (mkF m 20 #[.val (.int p0), .val (.int (11 : Int32)), .val (.ref s_BIT_STRING), .unset, .unset, .unset] [(.int (1 : Int32))])) _
    refine XS.goto X1.here hx rfl (pc0 := 20) (pc' := 24) rfl (hb hby at_20) (by decide) (by decide) ?_
    show Steps p.tables e below (T1.setTop (mkF m 24 #[.val (.int p0), .val (.int (11 : Int32)), .val (.ref s_BIT_STRING), .unset, .unset, .unset] [(.int (1 : Int32))])) _
    refine XS.istoreN X1.here hx rfl (hb hby at_24) rfl (l' := #[.val (.int p0), .val (.int (11 : Int32)), .val (.ref s_BIT_STRING), .val (.int (1 : Int32)), .unset, .unset]) rfl ?_
    show Steps p.tables e below (T1.setTop (mkF m 25 #[.val (.int p0), .val (.int (11 : Int32)), .val (.ref s_BIT_STRING), .val (.int (1 : Int32)), .unset, .unset] [])) _
    refine XS.aloadN X1.here hx rfl (hb hby at_25) rfl rfl ?_
    show Steps p.tables e below (T1.setTop (mkF m 26 #[.val (.int p0), .val (.int (11 : Int32)), .val (.ref s_BIT_STRING), .val (.int (1 : Int32)), .unset, .unset] [(.ref s_BIT_STRING)])) _
    refine st2.trans ?_
    show Steps p.tables e below (T2.setTop (mkF m 29 #[.val (.int p0), .val (.int (11 : Int32)), .val (.ref s_BIT_STRING), .val (.int (1 : Int32)), .unset, .unset] [(.int (1 : Int32))])) _
    refine XS.istore X2.here hx rfl (hb hby at_29) rfl (l' := #[.val (.int p0), .val (.int (11 : Int32)), .val (.ref s_BIT_STRING), .val (.int (1 : Int32)), .val (.int (1 : Int32)), .unset]) rfl ?_
    show Steps p.tables e below (T2.setTop (mkF m 31 #[.val (.int p0), .val (.int (11 : Int32)), .val (.ref s_BIT_STRING), .val (.int (1 : Int32)), .val (.int (1 : Int32)), .unset] [])) _
    refine XS.aloadN X2.here hx rfl (hb hby at_31) rfl rfl ?_
    show Steps p.tables e below (T2.setTop (mkF m 32 #[.val (.int p0), .val (.int (11 : Int32)), .val (.ref s_BIT_STRING), .val (.int (1 : Int32)), .val (.int (1 : Int32)), .unset] [(.ref s_BIT_STRING)])) _
    refine st3.trans ?_
    show Steps p.tables e below (T3.setTop (mkF m 35 #[.val (.int p0), .val (.int (11 : Int32)), .val (.ref s_BIT_STRING), .val (.int (1 : Int32)), .val (.int (1 : Int32)), .unset] [(.ref t_BIT_STRING_qualifierTag)])) _
    refine XS.ifnullNo X3.here hx rfl (hb hby at_35) rfl ?_
    show Steps p.tables e below (T3.setTop (mkF m 38 #[.val (.int p0), .val (.int (11 : Int32)), .val (.ref s_BIT_STRING), .val (.int (1 : Int32)), .val (.int (1 : Int32)), .unset] [])) _
    refine XS.iconst X3.here hx rfl (hb hby at_38) ?_
    show Steps p.tables e below (T3.setTop (mkF m 39 #[.val (.int p0), .val (.int (11 : Int32)), .val (.ref s_BIT_STRING), .val (.int (1 : Int32)), .val (.int (1 : Int32)), .unset] [(.int (1 : Int32))])) _
    refine XS.goto X3.here hx rfl (pc0 := 39) (pc' := 43) rfl (hb hby at_39) (by decide) (by decide) ?_
    show Steps p.tables e below (T3.setTop (mkF m 43 #[.val (.int p0), .val (.int (11 : Int32)), .val (.ref s_BIT_STRING), .val (.int (1 : Int32)), .val (.int (1 : Int32)), .unset] [(.int (1 : Int32))])) _
    refine XS.istore X3.here hx rfl (hb hby at_43) rfl (l' := #[.val (.int p0), .val (.int (11 : Int32)), .val (.ref s_BIT_STRING), .val (.int (1 : Int32)), .val (.int (1 : Int32)), .val (.int (1 : Int32))]) rfl ?_
    show Steps p.tables e below (T3.setTop (mkF m 45 #[.val (.int p0), .val (.int (11 : Int32)), .val (.ref s_BIT_STRING), .val (.int (1 : Int32)), .val (.int (1 : Int32)), .val (.int (1 : Int32))] [])) _
    refine XS.iload X3.here hx rfl (hb hby at_45) rfl ?_
    show Steps p.tables e below (T3.setTop (mkF m 47 #[.val (.int p0), .val (.int (11 : Int32)), .val (.ref s_BIT_STRING), .val (.int (1 : Int32)), .val (.int (1 : Int32)), .val (.int (1 : Int32))] [(.int (1 : Int32))])) _
    refine XS.iloadN X3.here hx rfl (hb hby at_47) rfl ?_
    show Steps p.tables e below (T3.setTop (mkF m 48 #[.val (.int p0), .val (.int (11 : Int32)), .val (.ref s_BIT_STRING), .val (.int (1 : Int32)), .val (.int (1 : Int32)), .val (.int (1 : Int32))] [(.int (1 : Int32)), (.int (1 : Int32))])) _
    refine XS.icmpNo X3.here hx rfl (hb hby at_48) rfl (by decide +kernel) ?_
    show Steps p.tables e below (T3.setTop (mkF m 51 #[.val (.int p0), .val (.int (11 : Int32)), .val (.ref s_BIT_STRING), .val (.int (1 : Int32)), .val (.int (1 : Int32)), .val (.int (1 : Int32))] [])) _
    refine XS.iload X3.here hx rfl (hb hby at_51) rfl ?_
    show Steps p.tables e below (T3.setTop (mkF m 53 #[.val (.int p0), .val (.int (11 : Int32)), .val (.ref s_BIT_STRING), .val (.int (1 : Int32)), .val (.int (1 : Int32)), .val (.int (1 : Int32))] [(.int (1 : Int32))])) _
    refine XS.iload X3.here hx rfl (hb hby at_53) rfl ?_
    show Steps p.tables e below (T3.setTop (mkF m 55 #[.val (.int p0), .val (.int (11 : Int32)), .val (.ref s_BIT_STRING), .val (.int (1 : Int32)), .val (.int (1 : Int32)), .val (.int (1 : Int32))] [(.int (1 : Int32)), (.int (1 : Int32))])) _
    refine XS.icmpNo X3.here hx rfl (hb hby at_55) rfl (by decide +kernel) ?_
    show Steps p.tables e below (T3.setTop (mkF m 58 #[.val (.int p0), .val (.int (11 : Int32)), .val (.ref s_BIT_STRING), .val (.int (1 : Int32)), .val (.int (1 : Int32)), .val (.int (1 : Int32))] [])) _
    refine XS.iconst X3.here hx rfl (hb hby at_58) ?_
    show Steps p.tables e below (T3.setTop (mkF m 59 #[.val (.int p0), .val (.int (11 : Int32)), .val (.ref s_BIT_STRING), .val (.int (1 : Int32)), .val (.int (1 : Int32)), .val (.int (1 : Int32))] [(.int (1 : Int32))])) _
    refine XS.goto X3.here hx rfl (pc0 := 59) (pc' := 63) rfl (hb hby at_59) (by decide) (by decide) ?_
    show Steps p.tables e below (T3.setTop (mkF m 63 #[.val (.int p0), .val (.int (11 : Int32)), .val (.ref s_BIT_STRING), .val (.int (1 : Int32)), .val (.int (1 : Int32)), .val (.int (1 : Int32))] [(.int (1 : Int32))])) _
    exact retN X3 hx (t := .boolean) Bd.returns (by simp) (hb hby at_63) hr
  · exact ⟨rfl, N3, e3⟩
set_option maxRecDepth 65536 in
set_option maxHeartbeats 40000000 in
theorem r48 (l : Launch) (Z : State) (a0 : Array Value) (hw : ∀ d ∈ tables_1, d.before a0 Z = true) (ws : List Jvm.Cond) (h0 : Heap) (n0 : Nat) (s_NO_OP : Addr) (s_END_OF_CONSTRUCTOR : Addr) (s_ASCII_STRING : Addr) (s_BOOLEAN : Addr) (s_UNIQUE_ID : Addr) (s_SEQUENCE : Addr) (s_SET : Addr) (s_INTEGER : Addr) (s_PADDING : Addr) (s_PROPERTY_LIST : Addr) (s_DATE : Addr) (s_BIT_STRING : Addr) (t_BIT_STRING_qualifierTag : Addr) (s_PROPERTY : Addr) (s_FIELD : Addr) (t_FIELD_qualifierTag : Addr) (s_COMPRESSED : Addr) (s_ENCRYPTED : Addr) (t_ENCRYPTED_qualifierTag : Addr) (s_MESSAGE : Addr) (t_MESSAGE_qualifierTag : Addr) (s_EXTENSION : Addr) (s_VENDOR_DEFINED : Addr) (K : Ctx Z h0 s_NO_OP s_END_OF_CONSTRUCTOR s_ASCII_STRING s_BOOLEAN s_UNIQUE_ID s_SEQUENCE s_SET s_INTEGER s_PADDING s_PROPERTY_LIST s_DATE s_BIT_STRING t_BIT_STRING_qualifierTag s_PROPERTY s_FIELD t_FIELD_qualifierTag s_COMPRESSED s_ENCRYPTED t_ENCRYPTED_qualifierTag s_MESSAGE t_MESSAGE_qualifierTag s_EXTENSION s_VENDOR_DEFINED) :
    MetFree l (⟨"com/example/plainwire/plainwire/rfc806/ElementQualifiedPinLaw", "pick", "(I)Lcom/example/plainwire/plainwire/rfc806/Element;"⟩ : MethodName) (head1 (Jvm.Cond.code (⟨"com/example/plainwire/plainwire/rfc806/ElementQualifiedPinLaw", "pick", "(I)Lcom/example/plainwire/plainwire/rfc806/Element;"⟩ : MethodName) method_2_code 1 (some (.object "com/example/plainwire/plainwire/rfc806/Element")) :: ws) ({ frames := 0, cells := 0, slots := 0, locals := 0 } : Room)) (fun a U => a = #[(.int (12 : Int32))] ∧ Z.Warmed39 U.vm ∧ U.heap = h0) (fun _ _ _ _ _ => True) (fun _ U o U' => ∃ v L, o = .returned v ∧ QV (.ref s_PROPERTY) h0 n0 v U'.heap L ∧ FrameEnd U o U' L ({ frames := 0, cells := 0, slots := 0, locals := 0 } : Room).cells ({ frames := 0, cells := 0, slots := 0, locals := 0 } : Room).slots) := by
  obtain ⟨S_NO_OP, F_NO_OP_code, E_NO_OP, F_NO_OP_qualifierTag, S_END_OF_CONSTRUCTOR, F_END_OF_CONSTRUCTOR_code, E_END_OF_CONSTRUCTOR, F_END_OF_CONSTRUCTOR_qualifierTag, S_ASCII_STRING, F_ASCII_STRING_code, E_ASCII_STRING, F_ASCII_STRING_qualifierTag, S_BOOLEAN, F_BOOLEAN_code, E_BOOLEAN, F_BOOLEAN_qualifierTag, S_UNIQUE_ID, F_UNIQUE_ID_code, E_UNIQUE_ID, F_UNIQUE_ID_qualifierTag, S_SEQUENCE, F_SEQUENCE_code, E_SEQUENCE, F_SEQUENCE_qualifierTag, S_SET, F_SET_code, E_SET, F_SET_qualifierTag, S_INTEGER, F_INTEGER_code, E_INTEGER, F_INTEGER_qualifierTag, S_PADDING, F_PADDING_code, E_PADDING, F_PADDING_qualifierTag, S_PROPERTY_LIST, F_PROPERTY_LIST_code, E_PROPERTY_LIST, F_PROPERTY_LIST_qualifierTag, S_DATE, F_DATE_code, E_DATE, F_DATE_qualifierTag, S_BIT_STRING, F_BIT_STRING_code, E_BIT_STRING, F_BIT_STRING_qualifierTag, S_PROPERTY, F_PROPERTY_code, E_PROPERTY, F_PROPERTY_qualifierTag, S_COMPRESSED, F_COMPRESSED_code, E_COMPRESSED, F_COMPRESSED_qualifierTag, S_ENCRYPTED, F_ENCRYPTED_code, E_ENCRYPTED, F_ENCRYPTED_qualifierTag, S_FIELD, F_FIELD_code, E_FIELD, F_FIELD_qualifierTag, S_MESSAGE, F_MESSAGE_code, E_MESSAGE, F_MESSAGE_qualifierTag, S_EXTENSION, F_EXTENSION_code, E_EXTENSION, F_EXTENSION_qualifierTag, S_VENDOR_DEFINED, F_VENDOR_DEFINED_code, E_VENDOR_DEFINED, F_VENDOR_DEFINED_qualifierTag⟩ := id K
  refine MetFree.of_bodySF (plainFor_of_name pn0) hisR ?_
  intro p e s m args below meth c s₁ Bd hml0 hP hK
  obtain ⟨rfl, hZ, hh⟩ := hP
  have hx := Bd.exec
  have hby := Bd.bytes
  have hml : c.maxLocals = 1 := hml0
  have hown : s.vm.findClass "com/example/plainwire/plainwire/rfc806/ElementQualifiedPinLaw" = some m.cls := findClass_of_methodNamed Bd.named
  have X0 : Stand p l e ({ frames := 0, cells := 0, slots := 0, locals := 0 } : Room) s m #[(.int (12 : Int32))] below meth c s₁ [] 0 0 := Stand.of_body Bd
  have e0 : s₁.heap = h0 := by rw [← hh, Bd.state]; rfl
  have N0 := Fr.nil n0
  have pre0 : ∀ t, Steps p.tables e below (s₁.setTop (mkF m 0 #[.val (.int (12 : Int32))] [])) t → Steps p.tables e below (s₁.setTop (entryFrame m #[(.int (12 : Int32))] 1)) t := fun t k => castTop (by first | (simp [entryFrame, mkF, argsToLocals, Value.category]; done) | rfl) k
  obtain ⟨T1, X1, e1, st1⟩ := getS X0 hx hZ hown (host := "") (hw _ (List.mem_of_getElem? (i := 54) rfl)) Via.refl e0 S_PROPERTY (g := (mkF m 119 #[.val (.int (12 : Int32))] [])) rfl (hb hby d0_119)
  obtain ⟨fs, hr, hrun, hended, hW, hsame⟩ := X1.leave (v := some (.ref s_PROPERTY)) (fun h => by rw [Bd.returns] at h; cases h)
  refine ⟨_, _, pre0 _ ?_, hrun, hended, _, _, rfl, ?_, ⟨_, rfl⟩, hW, hsame.mono (by decide) (by decide)⟩
  · show Steps p.tables e below (s₁.setTop (mkF m 0 #[.val (.int (12 : Int32))] [])) _
    refine XS.iloadN X0.here hx rfl (hb hby d0_0) rfl ?_
    show Steps p.tables e below (s₁.setTop (mkF m 1 #[.val (.int (12 : Int32))] [(.int (12 : Int32))])) _
    refine XS.ifYes X0.here hx rfl (pc0 := 1) (pc' := 8) rfl (hb hby d0_1) rfl (by decide +kernel) (by decide) (by decide) ?_
    show Steps p.tables e below (s₁.setTop (mkF m 8 #[.val (.int (12 : Int32))] [])) _
    refine XS.iloadN X0.here hx rfl (hb hby d0_8) rfl ?_
    show Steps p.tables e below (s₁.setTop (mkF m 9 #[.val (.int (12 : Int32))] [(.int (12 : Int32))])) _
    refine XS.iconst X0.here hx rfl (hb hby d0_9) ?_
    show Steps p.tables e below (s₁.setTop (mkF m 10 #[.val (.int (12 : Int32))] [(.int (1 : Int32)), (.int (12 : Int32))])) _
    refine XS.icmpYes X0.here hx rfl (pc0 := 10) (pc' := 17) rfl (hb hby d0_10) rfl (by decide +kernel) (by decide) (by decide) ?_
    show Steps p.tables e below (s₁.setTop (mkF m 17 #[.val (.int (12 : Int32))] [])) _
    refine XS.iloadN X0.here hx rfl (hb hby d0_17) rfl ?_
    show Steps p.tables e below (s₁.setTop (mkF m 18 #[.val (.int (12 : Int32))] [(.int (12 : Int32))])) _
    refine XS.iconst X0.here hx rfl (hb hby d0_18) ?_
    show Steps p.tables e below (s₁.setTop (mkF m 19 #[.val (.int (12 : Int32))] [(.int (2 : Int32)), (.int (12 : Int32))])) _
    refine XS.icmpYes X0.here hx rfl (pc0 := 19) (pc' := 26) rfl (hb hby d0_19) rfl (by decide +kernel) (by decide) (by decide) ?_
    show Steps p.tables e below (s₁.setTop (mkF m 26 #[.val (.int (12 : Int32))] [])) _
    refine XS.iloadN X0.here hx rfl (hb hby d0_26) rfl ?_
    show Steps p.tables e below (s₁.setTop (mkF m 27 #[.val (.int (12 : Int32))] [(.int (12 : Int32))])) _
    refine XS.iconst X0.here hx rfl (hb hby d0_27) ?_
    show Steps p.tables e below (s₁.setTop (mkF m 28 #[.val (.int (12 : Int32))] [(.int (3 : Int32)), (.int (12 : Int32))])) _
    refine XS.icmpYes X0.here hx rfl (pc0 := 28) (pc' := 35) rfl (hb hby d0_28) rfl (by decide +kernel) (by decide) (by decide) ?_
    show Steps p.tables e below (s₁.setTop (mkF m 35 #[.val (.int (12 : Int32))] [])) _
    refine XS.iloadN X0.here hx rfl (hb hby d0_35) rfl ?_
    show Steps p.tables e below (s₁.setTop (mkF m 36 #[.val (.int (12 : Int32))] [(.int (12 : Int32))])) _
    refine XS.iconst X0.here hx rfl (hb hby d0_36) ?_
    show Steps p.tables e below (s₁.setTop (mkF m 37 #[.val (.int (12 : Int32))] [(.int (4 : Int32)), (.int (12 : Int32))])) _
    refine XS.icmpYes X0.here hx rfl (pc0 := 37) (pc' := 44) rfl (hb hby d0_37) rfl (by decide +kernel) (by decide) (by decide) ?_
    show Steps p.tables e below (s₁.setTop (mkF m 44 #[.val (.int (12 : Int32))] [])) _
    refine XS.iloadN X0.here hx rfl (hb hby d0_44) rfl ?_
    show Steps p.tables e below (s₁.setTop (mkF m 45 #[.val (.int (12 : Int32))] [(.int (12 : Int32))])) _
    refine XS.iconst X0.here hx rfl (hb hby d0_45) ?_
    show Steps p.tables e below (s₁.setTop (mkF m 46 #[.val (.int (12 : Int32))] [(.int (5 : Int32)), (.int (12 : Int32))])) _
    refine XS.icmpYes X0.here hx rfl (pc0 := 46) (pc' := 53) rfl (hb hby d0_46) rfl (by decide +kernel) (by decide) (by decide) ?_
    show Steps p.tables e below (s₁.setTop (mkF m 53 #[.val (.int (12 : Int32))] [])) _
    refine XS.iloadN X0.here hx rfl (hb hby d0_53) rfl ?_
    show Steps p.tables e below (s₁.setTop (mkF m 54 #[.val (.int (12 : Int32))] [(.int (12 : Int32))])) _
    refine XS.bipush X0.here hx rfl (hb hby d0_54) ?_
    show Steps p.tables e below (s₁.setTop (mkF m 56 #[.val (.int (12 : Int32))] [(.int (6 : Int32)), (.int (12 : Int32))])) _
    refine XS.icmpYes X0.here hx rfl (pc0 := 56) (pc' := 63) rfl (hb hby d0_56) rfl (by decide +kernel) (by decide) (by decide) ?_
    show Steps p.tables e below (s₁.setTop (mkF m 63 #[.val (.int (12 : Int32))] [])) _
    refine XS.iloadN X0.here hx rfl (hb hby d0_63) rfl ?_
    show Steps p.tables e below (s₁.setTop (mkF m 64 #[.val (.int (12 : Int32))] [(.int (12 : Int32))])) _
    refine XS.bipush X0.here hx rfl (hb hby d0_64) ?_
    show Steps p.tables e below (s₁.setTop (mkF m 66 #[.val (.int (12 : Int32))] [(.int (7 : Int32)), (.int (12 : Int32))])) _
    refine XS.icmpYes X0.here hx rfl (pc0 := 66) (pc' := 73) rfl (hb hby d0_66) rfl (by decide +kernel) (by decide) (by decide) ?_
    show Steps p.tables e below (s₁.setTop (mkF m 73 #[.val (.int (12 : Int32))] [])) _
    refine XS.iloadN X0.here hx rfl (hb hby d0_73) rfl ?_
    show Steps p.tables e below (s₁.setTop (mkF m 74 #[.val (.int (12 : Int32))] [(.int (12 : Int32))])) _
    refine XS.bipush X0.here hx rfl (hb hby d0_74) ?_
    show Steps p.tables e below (s₁.setTop (mkF m 76 #[.val (.int (12 : Int32))] [(.int (8 : Int32)), (.int (12 : Int32))])) _
    refine XS.icmpYes X0.here hx rfl (pc0 := 76) (pc' := 83) rfl (hb hby d0_76) rfl (by decide +kernel) (by decide) (by decide) ?_
    show Steps p.tables e below (s₁.setTop (mkF m 83 #[.val (.int (12 : Int32))] [])) _
    refine XS.iloadN X0.here hx rfl (hb hby d0_83) rfl ?_
    show Steps p.tables e below (s₁.setTop (mkF m 84 #[.val (.int (12 : Int32))] [(.int (12 : Int32))])) _
    refine XS.bipush X0.here hx rfl (hb hby d0_84) ?_
    show Steps p.tables e below (s₁.setTop (mkF m 86 #[.val (.int (12 : Int32))] [(.int (9 : Int32)), (.int (12 : Int32))])) _
    refine XS.icmpYes X0.here hx rfl (pc0 := 86) (pc' := 93) rfl (hb hby d0_86) rfl (by decide +kernel) (by decide) (by decide) ?_
    show Steps p.tables e below (s₁.setTop (mkF m 93 #[.val (.int (12 : Int32))] [])) _
    refine XS.iloadN X0.here hx rfl (hb hby d0_93) rfl ?_
    show Steps p.tables e below (s₁.setTop (mkF m 94 #[.val (.int (12 : Int32))] [(.int (12 : Int32))])) _
    refine XS.bipush X0.here hx rfl (hb hby d0_94) ?_
    show Steps p.tables e below (s₁.setTop (mkF m 96 #[.val (.int (12 : Int32))] [(.int (10 : Int32)), (.int (12 : Int32))])) _
    refine XS.icmpYes X0.here hx rfl (pc0 := 96) (pc' := 103) rfl (hb hby d0_96) rfl (by decide +kernel) (by decide) (by decide) ?_
    show Steps p.tables e below (s₁.setTop (mkF m 103 #[.val (.int (12 : Int32))] [])) _
    refine XS.iloadN X0.here hx rfl (hb hby d0_103) rfl ?_
    show Steps p.tables e below (s₁.setTop (mkF m 104 #[.val (.int (12 : Int32))] [(.int (12 : Int32))])) _
    refine XS.bipush X0.here hx rfl (hb hby d0_104) ?_
    show Steps p.tables e below (s₁.setTop (mkF m 106 #[.val (.int (12 : Int32))] [(.int (11 : Int32)), (.int (12 : Int32))])) _
    refine XS.icmpYes X0.here hx rfl (pc0 := 106) (pc' := 113) rfl (hb hby d0_106) rfl (by decide +kernel) (by decide) (by decide) ?_
    show Steps p.tables e below (s₁.setTop (mkF m 113 #[.val (.int (12 : Int32))] [])) _
    refine XS.iloadN X0.here hx rfl (hb hby d0_113) rfl ?_
    show Steps p.tables e below (s₁.setTop (mkF m 114 #[.val (.int (12 : Int32))] [(.int (12 : Int32))])) _
    refine XS.bipush X0.here hx rfl (hb hby d0_114) ?_
    show Steps p.tables e below (s₁.setTop (mkF m 116 #[.val (.int (12 : Int32))] [(.int (12 : Int32)), (.int (12 : Int32))])) _
    refine XS.icmpNo X0.here hx rfl (hb hby d0_116) rfl (by decide +kernel) ?_
    show Steps p.tables e below (s₁.setTop (mkF m 119 #[.val (.int (12 : Int32))] [])) _
    refine st1 _ ?_
    show Steps p.tables e below (T1.setTop (mkF m 122 #[.val (.int (12 : Int32))] [(.ref s_PROPERTY)])) _
    exact retOut X1 hx (i := .areturn) Bd.returns rfl (Or.inr (Or.inr (Or.inr (Or.inr ⟨rfl, rfl, rfl⟩)))) (hb hby d0_122) hr
  · exact ⟨rfl, N0, e1⟩
set_option maxRecDepth 65536 in
set_option maxHeartbeats 40000000 in
theorem r49 (l : Launch) (Z : State) (a0 : Array Value) (hw : ∀ d ∈ tables_1, d.before a0 Z = true) (ws : List Jvm.Cond) (h0 : Heap) (n0 : Nat) (s_NO_OP : Addr) (s_END_OF_CONSTRUCTOR : Addr) (s_ASCII_STRING : Addr) (s_BOOLEAN : Addr) (s_UNIQUE_ID : Addr) (s_SEQUENCE : Addr) (s_SET : Addr) (s_INTEGER : Addr) (s_PADDING : Addr) (s_PROPERTY_LIST : Addr) (s_DATE : Addr) (s_BIT_STRING : Addr) (t_BIT_STRING_qualifierTag : Addr) (s_PROPERTY : Addr) (s_FIELD : Addr) (t_FIELD_qualifierTag : Addr) (s_COMPRESSED : Addr) (s_ENCRYPTED : Addr) (t_ENCRYPTED_qualifierTag : Addr) (s_MESSAGE : Addr) (t_MESSAGE_qualifierTag : Addr) (s_EXTENSION : Addr) (s_VENDOR_DEFINED : Addr) (K : Ctx Z h0 s_NO_OP s_END_OF_CONSTRUCTOR s_ASCII_STRING s_BOOLEAN s_UNIQUE_ID s_SEQUENCE s_SET s_INTEGER s_PADDING s_PROPERTY_LIST s_DATE s_BIT_STRING t_BIT_STRING_qualifierTag s_PROPERTY s_FIELD t_FIELD_qualifierTag s_COMPRESSED s_ENCRYPTED t_ENCRYPTED_qualifierTag s_MESSAGE t_MESSAGE_qualifierTag s_EXTENSION s_VENDOR_DEFINED) :
    MetFree l (⟨"com/example/plainwire/plainwire/rfc806/Element", "qualified", "()Z"⟩ : MethodName) (head1 (Jvm.Cond.code (⟨"com/example/plainwire/plainwire/rfc806/Element", "qualified", "()Z"⟩ : MethodName) prog_101_method_9_code 1 (some .boolean) :: ws) ({ frames := 0, cells := 0, slots := 0, locals := 0 } : Room)) (fun a U => a = #[(.ref s_PROPERTY)] ∧ Z.Warmed39 U.vm ∧ U.heap = h0) (fun _ _ _ _ _ => True) (fun _ U o U' => ∃ v L, o = .returned v ∧ QV (.int (1 : Int32)) h0 n0 v U'.heap L ∧ FrameEnd U o U' L ({ frames := 0, cells := 0, slots := 0, locals := 0 } : Room).cells ({ frames := 0, cells := 0, slots := 0, locals := 0 } : Room).slots) := by
  obtain ⟨S_NO_OP, F_NO_OP_code, E_NO_OP, F_NO_OP_qualifierTag, S_END_OF_CONSTRUCTOR, F_END_OF_CONSTRUCTOR_code, E_END_OF_CONSTRUCTOR, F_END_OF_CONSTRUCTOR_qualifierTag, S_ASCII_STRING, F_ASCII_STRING_code, E_ASCII_STRING, F_ASCII_STRING_qualifierTag, S_BOOLEAN, F_BOOLEAN_code, E_BOOLEAN, F_BOOLEAN_qualifierTag, S_UNIQUE_ID, F_UNIQUE_ID_code, E_UNIQUE_ID, F_UNIQUE_ID_qualifierTag, S_SEQUENCE, F_SEQUENCE_code, E_SEQUENCE, F_SEQUENCE_qualifierTag, S_SET, F_SET_code, E_SET, F_SET_qualifierTag, S_INTEGER, F_INTEGER_code, E_INTEGER, F_INTEGER_qualifierTag, S_PADDING, F_PADDING_code, E_PADDING, F_PADDING_qualifierTag, S_PROPERTY_LIST, F_PROPERTY_LIST_code, E_PROPERTY_LIST, F_PROPERTY_LIST_qualifierTag, S_DATE, F_DATE_code, E_DATE, F_DATE_qualifierTag, S_BIT_STRING, F_BIT_STRING_code, E_BIT_STRING, F_BIT_STRING_qualifierTag, S_PROPERTY, F_PROPERTY_code, E_PROPERTY, F_PROPERTY_qualifierTag, S_COMPRESSED, F_COMPRESSED_code, E_COMPRESSED, F_COMPRESSED_qualifierTag, S_ENCRYPTED, F_ENCRYPTED_code, E_ENCRYPTED, F_ENCRYPTED_qualifierTag, S_FIELD, F_FIELD_code, E_FIELD, F_FIELD_qualifierTag, S_MESSAGE, F_MESSAGE_code, E_MESSAGE, F_MESSAGE_qualifierTag, S_EXTENSION, F_EXTENSION_code, E_EXTENSION, F_EXTENSION_qualifierTag, S_VENDOR_DEFINED, F_VENDOR_DEFINED_code, E_VENDOR_DEFINED, F_VENDOR_DEFINED_qualifierTag⟩ := id K
  refine MetFree.of_bodySF (plainFor_of_name pn1) hisR ?_
  intro p e s m args below meth c s₁ Bd hml0 hP hK
  obtain ⟨rfl, hZ, hh⟩ := hP
  have hx := Bd.exec
  have hby := Bd.bytes
  have hml : c.maxLocals = 1 := hml0
  have hown : s.vm.findClass "com/example/plainwire/plainwire/rfc806/Element" = some m.cls := findClass_of_methodNamed Bd.named
  have X0 : Stand p l e ({ frames := 0, cells := 0, slots := 0, locals := 0 } : Room) s m #[(.ref s_PROPERTY)] below meth c s₁ [] 0 0 := Stand.of_body Bd
  have e0 : s₁.heap = h0 := by rw [← hh, Bd.state]; rfl
  have N0 := Fr.nil n0
  have pre0 : ∀ t, Steps p.tables e below (s₁.setTop (mkF m 0 #[.val (.ref s_PROPERTY)] [])) t → Steps p.tables e below (s₁.setTop (entryFrame m #[(.ref s_PROPERTY)] 1)) t := fun t k => castTop (by first | (simp [entryFrame, mkF, argsToLocals, Value.category]; done) | rfl) k
  obtain ⟨T1, X1, e1, st1⟩ := getF X0 hx hZ hown (host := "") (Or.inl (hw _ (List.mem_of_getElem? (i := 13) rfl))) Via.refl e0 F_PROPERTY_code (g := (mkF m 1 #[.val (.ref s_PROPERTY)] [(.ref s_PROPERTY)])) rfl rfl (hb hby d1_1)
  obtain ⟨fs, hr, hrun, hended, hW, hsame⟩ := X1.leave (v := some (.int (1 : Int32))) (fun h => by rw [Bd.returns] at h; cases h)
  refine ⟨_, _, pre0 _ ?_, hrun, hended, _, _, rfl, ?_, ⟨_, rfl⟩, hW, hsame.mono (by decide) (by decide)⟩
  · show Steps p.tables e below (s₁.setTop (mkF m 0 #[.val (.ref s_PROPERTY)] [])) _
    refine XS.aloadN X0.here hx rfl (hb hby d1_0) rfl rfl ?_
    show Steps p.tables e below (s₁.setTop (mkF m 1 #[.val (.ref s_PROPERTY)] [(.ref s_PROPERTY)])) _
    refine st1 _ ?_
    show Steps p.tables e below (T1.setTop (mkF m 4 #[.val (.ref s_PROPERTY)] [(.int (69 : Int32))])) _
    refine XS.bipush X1.here hx rfl (hb hby d1_4) ?_
    show Steps p.tables e below (T1.setTop (mkF m 6 #[.val (.ref s_PROPERTY)] [(.int (64 : Int32)), (.int (69 : Int32))])) _
    refine XS.iand X1.here hx rfl (hb hby d1_6) rfl ?_
    show Steps p.tables e below (T1.setTop (mkF m 7 #[.val (.ref s_PROPERTY)] [(.int ((69 : Int32) &&& (64 : Int32)))])) _
    rw [show ((69 : Int32) &&& (64 : Int32)) = (64 : Int32) from by decide +kernel]
    show Steps p.tables e below (T1.setTop (mkF m 7 #[.val (.ref s_PROPERTY)] [(.int (64 : Int32))])) _
    refine XS.ifNo X1.here hx rfl (hb hby d1_7) rfl (by decide +kernel) ?_
    show Steps p.tables e below (T1.setTop (mkF m 10 #[.val (.ref s_PROPERTY)] [])) _
    refine XS.iconst X1.here hx rfl (hb hby d1_10) ?_
    show Steps p.tables e below (T1.setTop (mkF m 11 #[.val (.ref s_PROPERTY)] [(.int (1 : Int32))])) _
    refine XS.goto X1.here hx rfl (pc0 := 11) (pc' := 15) rfl (hb hby d1_11) (by decide) (by decide) ?_
    show Steps p.tables e below (T1.setTop (mkF m 15 #[.val (.ref s_PROPERTY)] [(.int (1 : Int32))])) _
    exact retN X1 hx (t := .boolean) Bd.returns (by simp) (hb hby d1_15) hr
  · exact ⟨rfl, N0, e1⟩
set_option maxRecDepth 65536 in
set_option maxHeartbeats 40000000 in
theorem r50 (l : Launch) (Z : State) (a0 : Array Value) (hw : ∀ d ∈ tables_1, d.before a0 Z = true) (ws : List Jvm.Cond) (h0 : Heap) (n0 : Nat) (s_NO_OP : Addr) (s_END_OF_CONSTRUCTOR : Addr) (s_ASCII_STRING : Addr) (s_BOOLEAN : Addr) (s_UNIQUE_ID : Addr) (s_SEQUENCE : Addr) (s_SET : Addr) (s_INTEGER : Addr) (s_PADDING : Addr) (s_PROPERTY_LIST : Addr) (s_DATE : Addr) (s_BIT_STRING : Addr) (t_BIT_STRING_qualifierTag : Addr) (s_PROPERTY : Addr) (s_FIELD : Addr) (t_FIELD_qualifierTag : Addr) (s_COMPRESSED : Addr) (s_ENCRYPTED : Addr) (t_ENCRYPTED_qualifierTag : Addr) (s_MESSAGE : Addr) (t_MESSAGE_qualifierTag : Addr) (s_EXTENSION : Addr) (s_VENDOR_DEFINED : Addr) (K : Ctx Z h0 s_NO_OP s_END_OF_CONSTRUCTOR s_ASCII_STRING s_BOOLEAN s_UNIQUE_ID s_SEQUENCE s_SET s_INTEGER s_PADDING s_PROPERTY_LIST s_DATE s_BIT_STRING t_BIT_STRING_qualifierTag s_PROPERTY s_FIELD t_FIELD_qualifierTag s_COMPRESSED s_ENCRYPTED t_ENCRYPTED_qualifierTag s_MESSAGE t_MESSAGE_qualifierTag s_EXTENSION s_VENDOR_DEFINED) :
    MetFree l (⟨"com/example/plainwire/plainwire/rfc806/Element", "qualifierTag", "()Ljava/lang/String;"⟩ : MethodName) (head1 (Jvm.Cond.code (⟨"com/example/plainwire/plainwire/rfc806/Element", "qualifierTag", "()Ljava/lang/String;"⟩ : MethodName) prog_101_method_10_code 1 (some (.object "java/lang/String")) :: ws) ({ frames := 0, cells := 0, slots := 0, locals := 0 } : Room)) (fun a U => a = #[(.ref s_PROPERTY)] ∧ Z.Warmed39 U.vm ∧ U.heap = h0) (fun _ _ _ _ _ => True) (fun _ U o U' => ∃ v L, o = .returned v ∧ QV (.ref t_FIELD_qualifierTag) h0 n0 v U'.heap L ∧ FrameEnd U o U' L ({ frames := 0, cells := 0, slots := 0, locals := 0 } : Room).cells ({ frames := 0, cells := 0, slots := 0, locals := 0 } : Room).slots) := by
  obtain ⟨S_NO_OP, F_NO_OP_code, E_NO_OP, F_NO_OP_qualifierTag, S_END_OF_CONSTRUCTOR, F_END_OF_CONSTRUCTOR_code, E_END_OF_CONSTRUCTOR, F_END_OF_CONSTRUCTOR_qualifierTag, S_ASCII_STRING, F_ASCII_STRING_code, E_ASCII_STRING, F_ASCII_STRING_qualifierTag, S_BOOLEAN, F_BOOLEAN_code, E_BOOLEAN, F_BOOLEAN_qualifierTag, S_UNIQUE_ID, F_UNIQUE_ID_code, E_UNIQUE_ID, F_UNIQUE_ID_qualifierTag, S_SEQUENCE, F_SEQUENCE_code, E_SEQUENCE, F_SEQUENCE_qualifierTag, S_SET, F_SET_code, E_SET, F_SET_qualifierTag, S_INTEGER, F_INTEGER_code, E_INTEGER, F_INTEGER_qualifierTag, S_PADDING, F_PADDING_code, E_PADDING, F_PADDING_qualifierTag, S_PROPERTY_LIST, F_PROPERTY_LIST_code, E_PROPERTY_LIST, F_PROPERTY_LIST_qualifierTag, S_DATE, F_DATE_code, E_DATE, F_DATE_qualifierTag, S_BIT_STRING, F_BIT_STRING_code, E_BIT_STRING, F_BIT_STRING_qualifierTag, S_PROPERTY, F_PROPERTY_code, E_PROPERTY, F_PROPERTY_qualifierTag, S_COMPRESSED, F_COMPRESSED_code, E_COMPRESSED, F_COMPRESSED_qualifierTag, S_ENCRYPTED, F_ENCRYPTED_code, E_ENCRYPTED, F_ENCRYPTED_qualifierTag, S_FIELD, F_FIELD_code, E_FIELD, F_FIELD_qualifierTag, S_MESSAGE, F_MESSAGE_code, E_MESSAGE, F_MESSAGE_qualifierTag, S_EXTENSION, F_EXTENSION_code, E_EXTENSION, F_EXTENSION_qualifierTag, S_VENDOR_DEFINED, F_VENDOR_DEFINED_code, E_VENDOR_DEFINED, F_VENDOR_DEFINED_qualifierTag⟩ := id K
  refine MetFree.of_bodySF (plainFor_of_name pn2) hisR ?_
  intro p e s m args below meth c s₁ Bd hml0 hP hK
  obtain ⟨rfl, hZ, hh⟩ := hP
  have hx := Bd.exec
  have hby := Bd.bytes
  have hml : c.maxLocals = 1 := hml0
  have hown : s.vm.findClass "com/example/plainwire/plainwire/rfc806/Element" = some m.cls := findClass_of_methodNamed Bd.named
  have X0 : Stand p l e ({ frames := 0, cells := 0, slots := 0, locals := 0 } : Room) s m #[(.ref s_PROPERTY)] below meth c s₁ [] 0 0 := Stand.of_body Bd
  have e0 : s₁.heap = h0 := by rw [← hh, Bd.state]; rfl
  have N0 := Fr.nil n0
  have pre0 : ∀ t, Steps p.tables e below (s₁.setTop (mkF m 0 #[.val (.ref s_PROPERTY)] [])) t → Steps p.tables e below (s₁.setTop (entryFrame m #[(.ref s_PROPERTY)] 1)) t := fun t k => castTop (by first | (simp [entryFrame, mkF, argsToLocals, Value.category]; done) | rfl) k
  obtain ⟨T1, X1, e1, st1⟩ := getF X0 hx hZ hown (host := "") (Or.inl (hw _ (List.mem_of_getElem? (i := 20) rfl))) Via.refl e0 F_PROPERTY_qualifierTag (g := (mkF m 1 #[.val (.ref s_PROPERTY)] [(.ref s_PROPERTY)])) rfl rfl (hb hby d2_1)
  obtain ⟨fs, hr, hrun, hended, hW, hsame⟩ := X1.leave (v := some (.ref t_FIELD_qualifierTag)) (fun h => by rw [Bd.returns] at h; cases h)
  refine ⟨_, _, pre0 _ ?_, hrun, hended, _, _, rfl, ?_, ⟨_, rfl⟩, hW, hsame.mono (by decide) (by decide)⟩
  · show Steps p.tables e below (s₁.setTop (mkF m 0 #[.val (.ref s_PROPERTY)] [])) _
    refine XS.aloadN X0.here hx rfl (hb hby d2_0) rfl rfl ?_
    show Steps p.tables e below (s₁.setTop (mkF m 1 #[.val (.ref s_PROPERTY)] [(.ref s_PROPERTY)])) _
    refine st1 _ ?_
    show Steps p.tables e below (T1.setTop (mkF m 4 #[.val (.ref s_PROPERTY)] [(.ref t_FIELD_qualifierTag)])) _
    exact retOut X1 hx (i := .areturn) Bd.returns rfl (Or.inr (Or.inr (Or.inr (Or.inr ⟨rfl, rfl, rfl⟩)))) (hb hby d2_4) hr
  · exact ⟨rfl, N0, e1⟩
set_option maxRecDepth 65536 in
set_option maxHeartbeats 40000000 in
theorem law_k12 (l : Launch) (Z : State) (a0 : Array Value) (hw : ∀ d ∈ tables_1, d.before a0 Z = true) (ws : List Jvm.Cond) (h0 : Heap) (n0 : Nat) (s_NO_OP : Addr) (s_END_OF_CONSTRUCTOR : Addr) (s_ASCII_STRING : Addr) (s_BOOLEAN : Addr) (s_UNIQUE_ID : Addr) (s_SEQUENCE : Addr) (s_SET : Addr) (s_INTEGER : Addr) (s_PADDING : Addr) (s_PROPERTY_LIST : Addr) (s_DATE : Addr) (s_BIT_STRING : Addr) (t_BIT_STRING_qualifierTag : Addr) (s_PROPERTY : Addr) (s_FIELD : Addr) (t_FIELD_qualifierTag : Addr) (s_COMPRESSED : Addr) (s_ENCRYPTED : Addr) (t_ENCRYPTED_qualifierTag : Addr) (s_MESSAGE : Addr) (t_MESSAGE_qualifierTag : Addr) (s_EXTENSION : Addr) (s_VENDOR_DEFINED : Addr) (K : Ctx Z h0 s_NO_OP s_END_OF_CONSTRUCTOR s_ASCII_STRING s_BOOLEAN s_UNIQUE_ID s_SEQUENCE s_SET s_INTEGER s_PADDING s_PROPERTY_LIST s_DATE s_BIT_STRING t_BIT_STRING_qualifierTag s_PROPERTY s_FIELD t_FIELD_qualifierTag s_COMPRESSED s_ENCRYPTED t_ENCRYPTED_qualifierTag s_MESSAGE t_MESSAGE_qualifierTag s_EXTENSION s_VENDOR_DEFINED) (p0 : Int32) (hp0 : ((p0 &&& (2147483647 : Int32)) % (19 : Int32)) = (12 : Int32)) :
    MetFree l x (head1 (Jvm.Cond.code x code maxLocals ret :: ws) room_1) (fun a U => a = #[(.int p0)] ∧ Z.Warmed39 U.vm ∧ U.heap = h0) (fun _ _ _ _ _ => True) (fun _ U o U' => ∃ v L, o = .returned v ∧ QV (.int (1 : Int32)) h0 n0 v U'.heap L ∧ FrameEnd U o U' L room_1.cells room_1.slots) := by
  obtain ⟨S_NO_OP, F_NO_OP_code, E_NO_OP, F_NO_OP_qualifierTag, S_END_OF_CONSTRUCTOR, F_END_OF_CONSTRUCTOR_code, E_END_OF_CONSTRUCTOR, F_END_OF_CONSTRUCTOR_qualifierTag, S_ASCII_STRING, F_ASCII_STRING_code, E_ASCII_STRING, F_ASCII_STRING_qualifierTag, S_BOOLEAN, F_BOOLEAN_code, E_BOOLEAN, F_BOOLEAN_qualifierTag, S_UNIQUE_ID, F_UNIQUE_ID_code, E_UNIQUE_ID, F_UNIQUE_ID_qualifierTag, S_SEQUENCE, F_SEQUENCE_code, E_SEQUENCE, F_SEQUENCE_qualifierTag, S_SET, F_SET_code, E_SET, F_SET_qualifierTag, S_INTEGER, F_INTEGER_code, E_INTEGER, F_INTEGER_qualifierTag, S_PADDING, F_PADDING_code, E_PADDING, F_PADDING_qualifierTag, S_PROPERTY_LIST, F_PROPERTY_LIST_code, E_PROPERTY_LIST, F_PROPERTY_LIST_qualifierTag, S_DATE, F_DATE_code, E_DATE, F_DATE_qualifierTag, S_BIT_STRING, F_BIT_STRING_code, E_BIT_STRING, F_BIT_STRING_qualifierTag, S_PROPERTY, F_PROPERTY_code, E_PROPERTY, F_PROPERTY_qualifierTag, S_COMPRESSED, F_COMPRESSED_code, E_COMPRESSED, F_COMPRESSED_qualifierTag, S_ENCRYPTED, F_ENCRYPTED_code, E_ENCRYPTED, F_ENCRYPTED_qualifierTag, S_FIELD, F_FIELD_code, E_FIELD, F_FIELD_qualifierTag, S_MESSAGE, F_MESSAGE_code, E_MESSAGE, F_MESSAGE_qualifierTag, S_EXTENSION, F_EXTENSION_code, E_EXTENSION, F_EXTENSION_qualifierTag, S_VENDOR_DEFINED, F_VENDOR_DEFINED_code, E_VENDOR_DEFINED, F_VENDOR_DEFINED_qualifierTag⟩ := id K
  refine MetFree.of_bodySF (plainFor_of_name pn3) hisR ?_
  intro p e s m args below meth c s₁ Bd hml0 hP hK
  obtain ⟨rfl, hZ, hh⟩ := hP
  have hx := Bd.exec
  have hby := Bd.bytes
  have hml : c.maxLocals = 6 := hml0
  have hown : s.vm.findClass "com/example/plainwire/plainwire/rfc806/ElementQualifiedPinLaw" = some m.cls := findClass_of_methodNamed Bd.named
  have X0 : Stand p l e room_1 s m #[(.int p0)] below meth c s₁ [] 0 0 := Stand.of_body Bd
  have e0 : s₁.heap = h0 := by rw [← hh, Bd.state]; rfl
  have N0 := Fr.nil n0
  have pre0 : ∀ t, Steps p.tables e below (s₁.setTop (mkF m 0 #[.val (.int p0), .unset, .unset, .unset, .unset, .unset] [])) t → Steps p.tables e below (s₁.setTop (entryFrame m #[(.int p0)] maxLocals)) t := fun t k => castTop (by first | (simp [entryFrame, mkF, argsToLocals, Value.category, maxLocals]; done) | rfl) k
  obtain ⟨_, _, ⟨T1, L1, k1, n1⟩, -, X1, ⟨Lc1, hQ1, l1, y1, z1⟩, st1⟩ := Jvm.LawKit.callS X0 hx (y := (⟨"com/example/plainwire/plainwire/rfc806/ElementQualifiedPinLaw", "pick", "(I)Lcom/example/plainwire/plainwire/rfc806/Element;"⟩ : MethodName)) hown (mvT hZ (hw _ (List.mem_of_getElem? (i := 1) rfl))) (mvT hZ (hw _ (List.mem_of_getElem? (i := 2) rfl))) (mvT hZ (hw _ (List.mem_of_getElem? (i := 3) rfl))) (mvT hZ (hw _ (List.mem_of_getElem? (i := 4) rfl))) (by decide) (backOf (W := 0) (r48 l Z a0 hw [] h0 n0 s_NO_OP s_END_OF_CONSTRUCTOR s_ASCII_STRING s_BOOLEAN s_UNIQUE_ID s_SEQUENCE s_SET s_INTEGER s_PADDING s_PROPERTY_LIST s_DATE s_BIT_STRING t_BIT_STRING_qualifierTag s_PROPERTY s_FIELD t_FIELD_qualifierTag s_COMPRESSED s_ENCRYPTED t_ENCRYPTED_qualifierTag s_MESSAGE t_MESSAGE_qualifierTag s_EXTENSION s_VENDOR_DEFINED K) hZ (hw _ (List.mem_of_getElem? (i := 4) rfl)) (hw _ (List.mem_of_getElem? (i := 3) rfl)) (by decide) (by decide)) (g := (mkF m 9 #[.val (.int p0), .val (.int (12 : Int32)), .unset, .unset, .unset, .unset] [(.int (12 : Int32))])) rfl (by rw [hml]; rfl) (argsL := [(.int (12 : Int32))]) (rest := []) (lenOf pd0 rfl) rfl (by show 2 * 0 + _ ≤ _; exact Nat.le_of_eq rfl) (hb hby at_9) (fun _ _ => ⟨rfl, e0, (by decide : 0 + 0 ≤ _), (by decide : 0 + 0 ≤ _)⟩)
  dsimp only [Pt.U, Pt.locs, Pt.cells, Pt.slots] at X1 l1 y1 z1 st1 hQ1
  subst l1 y1 z1
  obtain ⟨rfl, N1q, e1⟩ := hQ1
  have N1 := Fr.app N0 N1q
  obtain ⟨cq2, kq2, q2a, q2b, q2c⟩ := isOf hZ e1 E_PROPERTY
  obtain ⟨_, _, ⟨T2, L2, k2, n2⟩, -, X2, ⟨Lc2, hQ2, l2, y2, z2⟩, st2⟩ := X1.virtualBack hx (y := (⟨"com/example/plainwire/plainwire/rfc806/Element", "qualified", "()Z"⟩ : MethodName)) (z := (⟨"com/example/plainwire/plainwire/rfc806/Element", "qualified", "()Z"⟩ : MethodName)) hown (mvT hZ (hw _ (List.mem_of_getElem? (i := 8) rfl))) (mvT hZ (hw _ (List.mem_of_getElem? (i := 9) rfl))) (notFace_of_selects (args := #[]) (mvT hZ (hw _ (List.mem_of_getElem? (i := 11) rfl)))) (mvT hZ (hw _ (List.mem_of_getElem? (i := 11) rfl))) (mvT hZ (hw _ (List.mem_of_getElem? (i := 10) rfl))) (by decide) (backOf (W := 0) (r49 l Z a0 hw [] h0 n0 s_NO_OP s_END_OF_CONSTRUCTOR s_ASCII_STRING s_BOOLEAN s_UNIQUE_ID s_SEQUENCE s_SET s_INTEGER s_PADDING s_PROPERTY_LIST s_DATE s_BIT_STRING t_BIT_STRING_qualifierTag s_PROPERTY s_FIELD t_FIELD_qualifierTag s_COMPRESSED s_ENCRYPTED t_ENCRYPTED_qualifierTag s_MESSAGE t_MESSAGE_qualifierTag s_EXTENSION s_VENDOR_DEFINED K) hZ (hw _ (List.mem_of_getElem? (i := 12) rfl)) (hw _ (List.mem_of_getElem? (i := 6) rfl)) (by decide) (by decide)) q2a q2c (g := (mkF m 26 #[.val (.int p0), .val (.int (12 : Int32)), .val (.ref s_PROPERTY), .val (.int (1 : Int32)), .unset, .unset] [(.ref s_PROPERTY)])) rfl (by rw [hml]; rfl) (Steps.refl _) (argsL := []) (rest := []) (lenOf pd1 rfl) rfl (by show 2 * 0 + _ ≤ _; exact Nat.le_of_eq rfl) (hb hby at_26) (fun _ _ => ⟨rfl, e1, (by decide : 0 + 0 ≤ _), (by decide : 0 + 0 ≤ _)⟩)
  dsimp only [Pt.U, Pt.locs, Pt.cells, Pt.slots] at X2 l2 y2 z2 st2 hQ2
  subst l2 y2 z2
  obtain ⟨rfl, N2q, e2⟩ := hQ2
  have N2 := Fr.app N1 N2q
  obtain ⟨cq3, kq3, q3a, q3b, q3c⟩ := isOf hZ e2 E_PROPERTY
  obtain ⟨_, _, ⟨T3, L3, k3, n3⟩, -, X3, ⟨Lc3, hQ3, l3, y3, z3⟩, st3⟩ := X2.virtualBack hx (y := (⟨"com/example/plainwire/plainwire/rfc806/Element", "qualifierTag", "()Ljava/lang/String;"⟩ : MethodName)) (z := (⟨"com/example/plainwire/plainwire/rfc806/Element", "qualifierTag", "()Ljava/lang/String;"⟩ : MethodName)) hown (mvT hZ (hw _ (List.mem_of_getElem? (i := 15) rfl))) (mvT hZ (hw _ (List.mem_of_getElem? (i := 16) rfl))) (notFace_of_selects (args := #[]) (mvT hZ (hw _ (List.mem_of_getElem? (i := 18) rfl)))) (mvT hZ (hw _ (List.mem_of_getElem? (i := 18) rfl))) (mvT hZ (hw _ (List.mem_of_getElem? (i := 17) rfl))) (by decide) (backOf (W := 0) (r50 l Z a0 hw [] h0 n0 s_NO_OP s_END_OF_CONSTRUCTOR s_ASCII_STRING s_BOOLEAN s_UNIQUE_ID s_SEQUENCE s_SET s_INTEGER s_PADDING s_PROPERTY_LIST s_DATE s_BIT_STRING t_BIT_STRING_qualifierTag s_PROPERTY s_FIELD t_FIELD_qualifierTag s_COMPRESSED s_ENCRYPTED t_ENCRYPTED_qualifierTag s_MESSAGE t_MESSAGE_qualifierTag s_EXTENSION s_VENDOR_DEFINED K) hZ (hw _ (List.mem_of_getElem? (i := 19) rfl)) (hw _ (List.mem_of_getElem? (i := 6) rfl)) (by decide) (by decide)) q3a q3c (g := (mkF m 32 #[.val (.int p0), .val (.int (12 : Int32)), .val (.ref s_PROPERTY), .val (.int (1 : Int32)), .val (.int (1 : Int32)), .unset] [(.ref s_PROPERTY)])) rfl (by rw [hml]; rfl) (Steps.refl _) (argsL := []) (rest := []) (lenOf pd2 rfl) rfl (by show 2 * 0 + _ ≤ _; exact Nat.le_of_eq rfl) (hb hby at_32) (fun _ _ => ⟨rfl, e2, (by decide : 0 + 0 ≤ _), (by decide : 0 + 0 ≤ _)⟩)
  dsimp only [Pt.U, Pt.locs, Pt.cells, Pt.slots] at X3 l3 y3 z3 st3 hQ3
  subst l3 y3 z3
  obtain ⟨rfl, N3q, e3⟩ := hQ3
  have N3 := Fr.app N2 N3q
  obtain ⟨fs, hr, hrun, hended, hW, hsame⟩ := X3.leave (v := some (.int (1 : Int32))) (fun h => by rw [Bd.returns] at h; cases h)
  refine ⟨_, _, pre0 _ ?_, hrun, hended, _, _, rfl, ?_, ⟨_, rfl⟩, hW, hsame.mono (by decide) (by decide)⟩
  · show Steps p.tables e below (s₁.setTop (mkF m 0 #[.val (.int p0), .unset, .unset, .unset, .unset, .unset] [])) _
    refine XS.iloadN X0.here hx rfl (hb hby at_0) rfl ?_
    show Steps p.tables e below (s₁.setTop (mkF m 1 #[.val (.int p0), .unset, .unset, .unset, .unset, .unset] [(.int p0)])) _
    refine X0.ldcInt hx hown (mvT hZ (hw _ (List.mem_of_getElem? (i := 0) rfl))) (g := (mkF m 1 #[.val (.int p0), .unset, .unset, .unset, .unset, .unset] [(.int p0)])) rfl (hb hby at_1) _ ?_
    show Steps p.tables e below (s₁.setTop (mkF m 3 #[.val (.int p0), .unset, .unset, .unset, .unset, .unset] [(.int (2147483647 : Int32)), (.int p0)])) _
    refine XS.iand X0.here hx rfl (hb hby at_3) rfl ?_
    show Steps p.tables e below (s₁.setTop (mkF m 4 #[.val (.int p0), .unset, .unset, .unset, .unset, .unset] [(.int (p0 &&& (2147483647 : Int32)))])) _
    refine XS.bipush X0.here hx rfl (hb hby at_4) ?_
    show Steps p.tables e below (s₁.setTop (mkF m 6 #[.val (.int p0), .unset, .unset, .unset, .unset, .unset] [(.int (19 : Int32)), (.int (p0 &&& (2147483647 : Int32)))])) _
    refine Jvm.RoadKit.iremM X0 hx rfl (hb hby at_6) rfl (by decide) ?_
    show Steps p.tables e below (s₁.setTop (mkF m 7 #[.val (.int p0), .unset, .unset, .unset, .unset, .unset] [(.int ((p0 &&& (2147483647 : Int32)) % (19 : Int32)))])) _
    rw [hp0]
    show Steps p.tables e below (s₁.setTop (mkF m 7 #[.val (.int p0), .unset, .unset, .unset, .unset, .unset] [(.int (12 : Int32))])) _
    refine XS.istoreN X0.here hx rfl (hb hby at_7) rfl (l' := #[.val (.int p0), .val (.int (12 : Int32)), .unset, .unset, .unset, .unset]) rfl ?_
    show Steps p.tables e below (s₁.setTop (mkF m 8 #[.val (.int p0), .val (.int (12 : Int32)), .unset, .unset, .unset, .unset] [])) _
    refine XS.iloadN X0.here hx rfl (hb hby at_8) rfl ?_
    show Steps p.tables e below (s₁.setTop (mkF m 9 #[.val (.int p0), .val (.int (12 : Int32)), .unset, .unset, .unset, .unset] [(.int (12 : Int32))])) _
    refine st1 _ ?_
    show Steps p.tables e below (T1.setTop (mkF m 12 #[.val (.int p0), .val (.int (12 : Int32)), .unset, .unset, .unset, .unset] [(.ref s_PROPERTY)])) _
    refine XS.astoreN X1.here hx rfl (hb hby at_12) rfl rfl (l' := #[.val (.int p0), .val (.int (12 : Int32)), .val (.ref s_PROPERTY), .unset, .unset, .unset]) rfl ?_
    show Steps p.tables e below (T1.setTop (mkF m 13 #[.val (.int p0), .val (.int (12 : Int32)), .val (.ref s_PROPERTY), .unset, .unset, .unset] [])) _
    refine XS.iloadN X1.here hx rfl (hb hby at_13) rfl ?_
    show Steps p.tables e below (T1.setTop (mkF m 14 #[.val (.int p0), .val (.int (12 : Int32)), .val (.ref s_PROPERTY), .unset, .unset, .unset] [(.int (12 : Int32))])) _
    refine XS.bipush X1.here hx rfl (hb hby at_14) ?_
    show Steps p.tables e below (T1.setTop (mkF m 16 #[.val (.int p0), .val (.int (12 : Int32)), .val (.ref s_PROPERTY), .unset, .unset, .unset] [(.int (11 : Int32)), (.int (12 : Int32))])) _
    refine XS.icmpNo X1.here hx rfl (hb hby at_16) rfl (by decide +kernel) ?_
    show Steps p.tables e below (T1.setTop (mkF m 19 #[.val (.int p0), .val (.int (12 : Int32)), .val (.ref s_PROPERTY), .unset, .unset, .unset] [])) _
    refine XS.iconst X1.here hx rfl (hb hby at_19) ?_
    show Steps p.tables e below (T1.setTop (mkF m 20 #[.val (.int p0), .val (.int (12 : Int32)), .val (.ref s_PROPERTY), .unset, .unset, .unset] [(.int (1 : Int32))])) _
    refine XS.goto X1.here hx rfl (pc0 := 20) (pc' := 24) rfl (hb hby at_20) (by decide) (by decide) ?_
    show Steps p.tables e below (T1.setTop (mkF m 24 #[.val (.int p0), .val (.int (12 : Int32)), .val (.ref s_PROPERTY), .unset, .unset, .unset] [(.int (1 : Int32))])) _
    refine XS.istoreN X1.here hx rfl (hb hby at_24) rfl (l' := #[.val (.int p0), .val (.int (12 : Int32)), .val (.ref s_PROPERTY), .val (.int (1 : Int32)), .unset, .unset]) rfl ?_
    show Steps p.tables e below (T1.setTop (mkF m 25 #[.val (.int p0), .val (.int (12 : Int32)), .val (.ref s_PROPERTY), .val (.int (1 : Int32)), .unset, .unset] [])) _
    refine XS.aloadN X1.here hx rfl (hb hby at_25) rfl rfl ?_
    show Steps p.tables e below (T1.setTop (mkF m 26 #[.val (.int p0), .val (.int (12 : Int32)), .val (.ref s_PROPERTY), .val (.int (1 : Int32)), .unset, .unset] [(.ref s_PROPERTY)])) _
    refine st2.trans ?_
    show Steps p.tables e below (T2.setTop (mkF m 29 #[.val (.int p0), .val (.int (12 : Int32)), .val (.ref s_PROPERTY), .val (.int (1 : Int32)), .unset, .unset] [(.int (1 : Int32))])) _
    refine XS.istore X2.here hx rfl (hb hby at_29) rfl (l' := #[.val (.int p0), .val (.int (12 : Int32)), .val (.ref s_PROPERTY), .val (.int (1 : Int32)), .val (.int (1 : Int32)), .unset]) rfl ?_
    show Steps p.tables e below (T2.setTop (mkF m 31 #[.val (.int p0), .val (.int (12 : Int32)), .val (.ref s_PROPERTY), .val (.int (1 : Int32)), .val (.int (1 : Int32)), .unset] [])) _
    refine XS.aloadN X2.here hx rfl (hb hby at_31) rfl rfl ?_
    show Steps p.tables e below (T2.setTop (mkF m 32 #[.val (.int p0), .val (.int (12 : Int32)), .val (.ref s_PROPERTY), .val (.int (1 : Int32)), .val (.int (1 : Int32)), .unset] [(.ref s_PROPERTY)])) _
    refine st3.trans ?_
    show Steps p.tables e below (T3.setTop (mkF m 35 #[.val (.int p0), .val (.int (12 : Int32)), .val (.ref s_PROPERTY), .val (.int (1 : Int32)), .val (.int (1 : Int32)), .unset] [(.ref t_FIELD_qualifierTag)])) _
    refine XS.ifnullNo X3.here hx rfl (hb hby at_35) rfl ?_
    show Steps p.tables e below (T3.setTop (mkF m 38 #[.val (.int p0), .val (.int (12 : Int32)), .val (.ref s_PROPERTY), .val (.int (1 : Int32)), .val (.int (1 : Int32)), .unset] [])) _
    refine XS.iconst X3.here hx rfl (hb hby at_38) ?_
    show Steps p.tables e below (T3.setTop (mkF m 39 #[.val (.int p0), .val (.int (12 : Int32)), .val (.ref s_PROPERTY), .val (.int (1 : Int32)), .val (.int (1 : Int32)), .unset] [(.int (1 : Int32))])) _
    refine XS.goto X3.here hx rfl (pc0 := 39) (pc' := 43) rfl (hb hby at_39) (by decide) (by decide) ?_
    show Steps p.tables e below (T3.setTop (mkF m 43 #[.val (.int p0), .val (.int (12 : Int32)), .val (.ref s_PROPERTY), .val (.int (1 : Int32)), .val (.int (1 : Int32)), .unset] [(.int (1 : Int32))])) _
    refine XS.istore X3.here hx rfl (hb hby at_43) rfl (l' := #[.val (.int p0), .val (.int (12 : Int32)), .val (.ref s_PROPERTY), .val (.int (1 : Int32)), .val (.int (1 : Int32)), .val (.int (1 : Int32))]) rfl ?_
    show Steps p.tables e below (T3.setTop (mkF m 45 #[.val (.int p0), .val (.int (12 : Int32)), .val (.ref s_PROPERTY), .val (.int (1 : Int32)), .val (.int (1 : Int32)), .val (.int (1 : Int32))] [])) _
    refine XS.iload X3.here hx rfl (hb hby at_45) rfl ?_
    show Steps p.tables e below (T3.setTop (mkF m 47 #[.val (.int p0), .val (.int (12 : Int32)), .val (.ref s_PROPERTY), .val (.int (1 : Int32)), .val (.int (1 : Int32)), .val (.int (1 : Int32))] [(.int (1 : Int32))])) _
    refine XS.iloadN X3.here hx rfl (hb hby at_47) rfl ?_
    show Steps p.tables e below (T3.setTop (mkF m 48 #[.val (.int p0), .val (.int (12 : Int32)), .val (.ref s_PROPERTY), .val (.int (1 : Int32)), .val (.int (1 : Int32)), .val (.int (1 : Int32))] [(.int (1 : Int32)), (.int (1 : Int32))])) _
    refine XS.icmpNo X3.here hx rfl (hb hby at_48) rfl (by decide +kernel) ?_
    show Steps p.tables e below (T3.setTop (mkF m 51 #[.val (.int p0), .val (.int (12 : Int32)), .val (.ref s_PROPERTY), .val (.int (1 : Int32)), .val (.int (1 : Int32)), .val (.int (1 : Int32))] [])) _
    refine XS.iload X3.here hx rfl (hb hby at_51) rfl ?_
    show Steps p.tables e below (T3.setTop (mkF m 53 #[.val (.int p0), .val (.int (12 : Int32)), .val (.ref s_PROPERTY), .val (.int (1 : Int32)), .val (.int (1 : Int32)), .val (.int (1 : Int32))] [(.int (1 : Int32))])) _
    refine XS.iload X3.here hx rfl (hb hby at_53) rfl ?_
    show Steps p.tables e below (T3.setTop (mkF m 55 #[.val (.int p0), .val (.int (12 : Int32)), .val (.ref s_PROPERTY), .val (.int (1 : Int32)), .val (.int (1 : Int32)), .val (.int (1 : Int32))] [(.int (1 : Int32)), (.int (1 : Int32))])) _
    refine XS.icmpNo X3.here hx rfl (hb hby at_55) rfl (by decide +kernel) ?_
    show Steps p.tables e below (T3.setTop (mkF m 58 #[.val (.int p0), .val (.int (12 : Int32)), .val (.ref s_PROPERTY), .val (.int (1 : Int32)), .val (.int (1 : Int32)), .val (.int (1 : Int32))] [])) _
    refine XS.iconst X3.here hx rfl (hb hby at_58) ?_
    show Steps p.tables e below (T3.setTop (mkF m 59 #[.val (.int p0), .val (.int (12 : Int32)), .val (.ref s_PROPERTY), .val (.int (1 : Int32)), .val (.int (1 : Int32)), .val (.int (1 : Int32))] [(.int (1 : Int32))])) _
    refine XS.goto X3.here hx rfl (pc0 := 59) (pc' := 63) rfl (hb hby at_59) (by decide) (by decide) ?_
    show Steps p.tables e below (T3.setTop (mkF m 63 #[.val (.int p0), .val (.int (12 : Int32)), .val (.ref s_PROPERTY), .val (.int (1 : Int32)), .val (.int (1 : Int32)), .val (.int (1 : Int32))] [(.int (1 : Int32))])) _
    exact retN X3 hx (t := .boolean) Bd.returns (by simp) (hb hby at_63) hr
  · exact ⟨rfl, N3, e3⟩
set_option maxRecDepth 65536 in
set_option maxHeartbeats 40000000 in
theorem r52 (l : Launch) (Z : State) (a0 : Array Value) (hw : ∀ d ∈ tables_1, d.before a0 Z = true) (ws : List Jvm.Cond) (h0 : Heap) (n0 : Nat) (s_NO_OP : Addr) (s_END_OF_CONSTRUCTOR : Addr) (s_ASCII_STRING : Addr) (s_BOOLEAN : Addr) (s_UNIQUE_ID : Addr) (s_SEQUENCE : Addr) (s_SET : Addr) (s_INTEGER : Addr) (s_PADDING : Addr) (s_PROPERTY_LIST : Addr) (s_DATE : Addr) (s_BIT_STRING : Addr) (t_BIT_STRING_qualifierTag : Addr) (s_PROPERTY : Addr) (s_FIELD : Addr) (t_FIELD_qualifierTag : Addr) (s_COMPRESSED : Addr) (s_ENCRYPTED : Addr) (t_ENCRYPTED_qualifierTag : Addr) (s_MESSAGE : Addr) (t_MESSAGE_qualifierTag : Addr) (s_EXTENSION : Addr) (s_VENDOR_DEFINED : Addr) (K : Ctx Z h0 s_NO_OP s_END_OF_CONSTRUCTOR s_ASCII_STRING s_BOOLEAN s_UNIQUE_ID s_SEQUENCE s_SET s_INTEGER s_PADDING s_PROPERTY_LIST s_DATE s_BIT_STRING t_BIT_STRING_qualifierTag s_PROPERTY s_FIELD t_FIELD_qualifierTag s_COMPRESSED s_ENCRYPTED t_ENCRYPTED_qualifierTag s_MESSAGE t_MESSAGE_qualifierTag s_EXTENSION s_VENDOR_DEFINED) :
    MetFree l (⟨"com/example/plainwire/plainwire/rfc806/ElementQualifiedPinLaw", "pick", "(I)Lcom/example/plainwire/plainwire/rfc806/Element;"⟩ : MethodName) (head1 (Jvm.Cond.code (⟨"com/example/plainwire/plainwire/rfc806/ElementQualifiedPinLaw", "pick", "(I)Lcom/example/plainwire/plainwire/rfc806/Element;"⟩ : MethodName) method_2_code 1 (some (.object "com/example/plainwire/plainwire/rfc806/Element")) :: ws) ({ frames := 0, cells := 0, slots := 0, locals := 0 } : Room)) (fun a U => a = #[(.int (13 : Int32))] ∧ Z.Warmed39 U.vm ∧ U.heap = h0) (fun _ _ _ _ _ => True) (fun _ U o U' => ∃ v L, o = .returned v ∧ QV (.ref s_COMPRESSED) h0 n0 v U'.heap L ∧ FrameEnd U o U' L ({ frames := 0, cells := 0, slots := 0, locals := 0 } : Room).cells ({ frames := 0, cells := 0, slots := 0, locals := 0 } : Room).slots) := by
  obtain ⟨S_NO_OP, F_NO_OP_code, E_NO_OP, F_NO_OP_qualifierTag, S_END_OF_CONSTRUCTOR, F_END_OF_CONSTRUCTOR_code, E_END_OF_CONSTRUCTOR, F_END_OF_CONSTRUCTOR_qualifierTag, S_ASCII_STRING, F_ASCII_STRING_code, E_ASCII_STRING, F_ASCII_STRING_qualifierTag, S_BOOLEAN, F_BOOLEAN_code, E_BOOLEAN, F_BOOLEAN_qualifierTag, S_UNIQUE_ID, F_UNIQUE_ID_code, E_UNIQUE_ID, F_UNIQUE_ID_qualifierTag, S_SEQUENCE, F_SEQUENCE_code, E_SEQUENCE, F_SEQUENCE_qualifierTag, S_SET, F_SET_code, E_SET, F_SET_qualifierTag, S_INTEGER, F_INTEGER_code, E_INTEGER, F_INTEGER_qualifierTag, S_PADDING, F_PADDING_code, E_PADDING, F_PADDING_qualifierTag, S_PROPERTY_LIST, F_PROPERTY_LIST_code, E_PROPERTY_LIST, F_PROPERTY_LIST_qualifierTag, S_DATE, F_DATE_code, E_DATE, F_DATE_qualifierTag, S_BIT_STRING, F_BIT_STRING_code, E_BIT_STRING, F_BIT_STRING_qualifierTag, S_PROPERTY, F_PROPERTY_code, E_PROPERTY, F_PROPERTY_qualifierTag, S_COMPRESSED, F_COMPRESSED_code, E_COMPRESSED, F_COMPRESSED_qualifierTag, S_ENCRYPTED, F_ENCRYPTED_code, E_ENCRYPTED, F_ENCRYPTED_qualifierTag, S_FIELD, F_FIELD_code, E_FIELD, F_FIELD_qualifierTag, S_MESSAGE, F_MESSAGE_code, E_MESSAGE, F_MESSAGE_qualifierTag, S_EXTENSION, F_EXTENSION_code, E_EXTENSION, F_EXTENSION_qualifierTag, S_VENDOR_DEFINED, F_VENDOR_DEFINED_code, E_VENDOR_DEFINED, F_VENDOR_DEFINED_qualifierTag⟩ := id K
  refine MetFree.of_bodySF (plainFor_of_name pn0) hisR ?_
  intro p e s m args below meth c s₁ Bd hml0 hP hK
  obtain ⟨rfl, hZ, hh⟩ := hP
  have hx := Bd.exec
  have hby := Bd.bytes
  have hml : c.maxLocals = 1 := hml0
  have hown : s.vm.findClass "com/example/plainwire/plainwire/rfc806/ElementQualifiedPinLaw" = some m.cls := findClass_of_methodNamed Bd.named
  have X0 : Stand p l e ({ frames := 0, cells := 0, slots := 0, locals := 0 } : Room) s m #[(.int (13 : Int32))] below meth c s₁ [] 0 0 := Stand.of_body Bd
  have e0 : s₁.heap = h0 := by rw [← hh, Bd.state]; rfl
  have N0 := Fr.nil n0
  have pre0 : ∀ t, Steps p.tables e below (s₁.setTop (mkF m 0 #[.val (.int (13 : Int32))] [])) t → Steps p.tables e below (s₁.setTop (entryFrame m #[(.int (13 : Int32))] 1)) t := fun t k => castTop (by first | (simp [entryFrame, mkF, argsToLocals, Value.category]; done) | rfl) k
  obtain ⟨T1, X1, e1, st1⟩ := getS X0 hx hZ hown (host := "") (hw _ (List.mem_of_getElem? (i := 56) rfl)) Via.refl e0 S_COMPRESSED (g := (mkF m 129 #[.val (.int (13 : Int32))] [])) rfl (hb hby d0_129)
  obtain ⟨fs, hr, hrun, hended, hW, hsame⟩ := X1.leave (v := some (.ref s_COMPRESSED)) (fun h => by rw [Bd.returns] at h; cases h)
  refine ⟨_, _, pre0 _ ?_, hrun, hended, _, _, rfl, ?_, ⟨_, rfl⟩, hW, hsame.mono (by decide) (by decide)⟩
  · show Steps p.tables e below (s₁.setTop (mkF m 0 #[.val (.int (13 : Int32))] [])) _
    refine XS.iloadN X0.here hx rfl (hb hby d0_0) rfl ?_
    show Steps p.tables e below (s₁.setTop (mkF m 1 #[.val (.int (13 : Int32))] [(.int (13 : Int32))])) _
    refine XS.ifYes X0.here hx rfl (pc0 := 1) (pc' := 8) rfl (hb hby d0_1) rfl (by decide +kernel) (by decide) (by decide) ?_
    show Steps p.tables e below (s₁.setTop (mkF m 8 #[.val (.int (13 : Int32))] [])) _
    refine XS.iloadN X0.here hx rfl (hb hby d0_8) rfl ?_
    show Steps p.tables e below (s₁.setTop (mkF m 9 #[.val (.int (13 : Int32))] [(.int (13 : Int32))])) _
    refine XS.iconst X0.here hx rfl (hb hby d0_9) ?_
    show Steps p.tables e below (s₁.setTop (mkF m 10 #[.val (.int (13 : Int32))] [(.int (1 : Int32)), (.int (13 : Int32))])) _
    refine XS.icmpYes X0.here hx rfl (pc0 := 10) (pc' := 17) rfl (hb hby d0_10) rfl (by decide +kernel) (by decide) (by decide) ?_
    show Steps p.tables e below (s₁.setTop (mkF m 17 #[.val (.int (13 : Int32))] [])) _
    refine XS.iloadN X0.here hx rfl (hb hby d0_17) rfl ?_
    show Steps p.tables e below (s₁.setTop (mkF m 18 #[.val (.int (13 : Int32))] [(.int (13 : Int32))])) _
    refine XS.iconst X0.here hx rfl (hb hby d0_18) ?_
    show Steps p.tables e below (s₁.setTop (mkF m 19 #[.val (.int (13 : Int32))] [(.int (2 : Int32)), (.int (13 : Int32))])) _
    refine XS.icmpYes X0.here hx rfl (pc0 := 19) (pc' := 26) rfl (hb hby d0_19) rfl (by decide +kernel) (by decide) (by decide) ?_
    show Steps p.tables e below (s₁.setTop (mkF m 26 #[.val (.int (13 : Int32))] [])) _
    refine XS.iloadN X0.here hx rfl (hb hby d0_26) rfl ?_
    show Steps p.tables e below (s₁.setTop (mkF m 27 #[.val (.int (13 : Int32))] [(.int (13 : Int32))])) _
    refine XS.iconst X0.here hx rfl (hb hby d0_27) ?_
    show Steps p.tables e below (s₁.setTop (mkF m 28 #[.val (.int (13 : Int32))] [(.int (3 : Int32)), (.int (13 : Int32))])) _
    refine XS.icmpYes X0.here hx rfl (pc0 := 28) (pc' := 35) rfl (hb hby d0_28) rfl (by decide +kernel) (by decide) (by decide) ?_
    show Steps p.tables e below (s₁.setTop (mkF m 35 #[.val (.int (13 : Int32))] [])) _
    refine XS.iloadN X0.here hx rfl (hb hby d0_35) rfl ?_
    show Steps p.tables e below (s₁.setTop (mkF m 36 #[.val (.int (13 : Int32))] [(.int (13 : Int32))])) _
    refine XS.iconst X0.here hx rfl (hb hby d0_36) ?_
    show Steps p.tables e below (s₁.setTop (mkF m 37 #[.val (.int (13 : Int32))] [(.int (4 : Int32)), (.int (13 : Int32))])) _
    refine XS.icmpYes X0.here hx rfl (pc0 := 37) (pc' := 44) rfl (hb hby d0_37) rfl (by decide +kernel) (by decide) (by decide) ?_
    show Steps p.tables e below (s₁.setTop (mkF m 44 #[.val (.int (13 : Int32))] [])) _
    refine XS.iloadN X0.here hx rfl (hb hby d0_44) rfl ?_
    show Steps p.tables e below (s₁.setTop (mkF m 45 #[.val (.int (13 : Int32))] [(.int (13 : Int32))])) _
    refine XS.iconst X0.here hx rfl (hb hby d0_45) ?_
    show Steps p.tables e below (s₁.setTop (mkF m 46 #[.val (.int (13 : Int32))] [(.int (5 : Int32)), (.int (13 : Int32))])) _
    refine XS.icmpYes X0.here hx rfl (pc0 := 46) (pc' := 53) rfl (hb hby d0_46) rfl (by decide +kernel) (by decide) (by decide) ?_
    show Steps p.tables e below (s₁.setTop (mkF m 53 #[.val (.int (13 : Int32))] [])) _
    refine XS.iloadN X0.here hx rfl (hb hby d0_53) rfl ?_
    show Steps p.tables e below (s₁.setTop (mkF m 54 #[.val (.int (13 : Int32))] [(.int (13 : Int32))])) _
    refine XS.bipush X0.here hx rfl (hb hby d0_54) ?_
    show Steps p.tables e below (s₁.setTop (mkF m 56 #[.val (.int (13 : Int32))] [(.int (6 : Int32)), (.int (13 : Int32))])) _
    refine XS.icmpYes X0.here hx rfl (pc0 := 56) (pc' := 63) rfl (hb hby d0_56) rfl (by decide +kernel) (by decide) (by decide) ?_
    show Steps p.tables e below (s₁.setTop (mkF m 63 #[.val (.int (13 : Int32))] [])) _
    refine XS.iloadN X0.here hx rfl (hb hby d0_63) rfl ?_
    show Steps p.tables e below (s₁.setTop (mkF m 64 #[.val (.int (13 : Int32))] [(.int (13 : Int32))])) _
    refine XS.bipush X0.here hx rfl (hb hby d0_64) ?_
    show Steps p.tables e below (s₁.setTop (mkF m 66 #[.val (.int (13 : Int32))] [(.int (7 : Int32)), (.int (13 : Int32))])) _
    refine XS.icmpYes X0.here hx rfl (pc0 := 66) (pc' := 73) rfl (hb hby d0_66) rfl (by decide +kernel) (by decide) (by decide) ?_
    show Steps p.tables e below (s₁.setTop (mkF m 73 #[.val (.int (13 : Int32))] [])) _
    refine XS.iloadN X0.here hx rfl (hb hby d0_73) rfl ?_
    show Steps p.tables e below (s₁.setTop (mkF m 74 #[.val (.int (13 : Int32))] [(.int (13 : Int32))])) _
    refine XS.bipush X0.here hx rfl (hb hby d0_74) ?_
    show Steps p.tables e below (s₁.setTop (mkF m 76 #[.val (.int (13 : Int32))] [(.int (8 : Int32)), (.int (13 : Int32))])) _
    refine XS.icmpYes X0.here hx rfl (pc0 := 76) (pc' := 83) rfl (hb hby d0_76) rfl (by decide +kernel) (by decide) (by decide) ?_
    show Steps p.tables e below (s₁.setTop (mkF m 83 #[.val (.int (13 : Int32))] [])) _
    refine XS.iloadN X0.here hx rfl (hb hby d0_83) rfl ?_
    show Steps p.tables e below (s₁.setTop (mkF m 84 #[.val (.int (13 : Int32))] [(.int (13 : Int32))])) _
    refine XS.bipush X0.here hx rfl (hb hby d0_84) ?_
    show Steps p.tables e below (s₁.setTop (mkF m 86 #[.val (.int (13 : Int32))] [(.int (9 : Int32)), (.int (13 : Int32))])) _
    refine XS.icmpYes X0.here hx rfl (pc0 := 86) (pc' := 93) rfl (hb hby d0_86) rfl (by decide +kernel) (by decide) (by decide) ?_
    show Steps p.tables e below (s₁.setTop (mkF m 93 #[.val (.int (13 : Int32))] [])) _
    refine XS.iloadN X0.here hx rfl (hb hby d0_93) rfl ?_
    show Steps p.tables e below (s₁.setTop (mkF m 94 #[.val (.int (13 : Int32))] [(.int (13 : Int32))])) _
    refine XS.bipush X0.here hx rfl (hb hby d0_94) ?_
    show Steps p.tables e below (s₁.setTop (mkF m 96 #[.val (.int (13 : Int32))] [(.int (10 : Int32)), (.int (13 : Int32))])) _
    refine XS.icmpYes X0.here hx rfl (pc0 := 96) (pc' := 103) rfl (hb hby d0_96) rfl (by decide +kernel) (by decide) (by decide) ?_
    show Steps p.tables e below (s₁.setTop (mkF m 103 #[.val (.int (13 : Int32))] [])) _
    refine XS.iloadN X0.here hx rfl (hb hby d0_103) rfl ?_
    show Steps p.tables e below (s₁.setTop (mkF m 104 #[.val (.int (13 : Int32))] [(.int (13 : Int32))])) _
    refine XS.bipush X0.here hx rfl (hb hby d0_104) ?_
    show Steps p.tables e below (s₁.setTop (mkF m 106 #[.val (.int (13 : Int32))] [(.int (11 : Int32)), (.int (13 : Int32))])) _
    refine XS.icmpYes X0.here hx rfl (pc0 := 106) (pc' := 113) rfl (hb hby d0_106) rfl (by decide +kernel) (by decide) (by decide) ?_
    show Steps p.tables e below (s₁.setTop (mkF m 113 #[.val (.int (13 : Int32))] [])) _
    refine XS.iloadN X0.here hx rfl (hb hby d0_113) rfl ?_
    show Steps p.tables e below (s₁.setTop (mkF m 114 #[.val (.int (13 : Int32))] [(.int (13 : Int32))])) _
    refine XS.bipush X0.here hx rfl (hb hby d0_114) ?_
    show Steps p.tables e below (s₁.setTop (mkF m 116 #[.val (.int (13 : Int32))] [(.int (12 : Int32)), (.int (13 : Int32))])) _
    refine XS.icmpYes X0.here hx rfl (pc0 := 116) (pc' := 123) rfl (hb hby d0_116) rfl (by decide +kernel) (by decide) (by decide) ?_
    show Steps p.tables e below (s₁.setTop (mkF m 123 #[.val (.int (13 : Int32))] [])) _
    refine XS.iloadN X0.here hx rfl (hb hby d0_123) rfl ?_
    show Steps p.tables e below (s₁.setTop (mkF m 124 #[.val (.int (13 : Int32))] [(.int (13 : Int32))])) _
    refine XS.bipush X0.here hx rfl (hb hby d0_124) ?_
    show Steps p.tables e below (s₁.setTop (mkF m 126 #[.val (.int (13 : Int32))] [(.int (13 : Int32)), (.int (13 : Int32))])) _
    refine XS.icmpNo X0.here hx rfl (hb hby d0_126) rfl (by decide +kernel) ?_
    show Steps p.tables e below (s₁.setTop (mkF m 129 #[.val (.int (13 : Int32))] [])) _
    refine st1 _ ?_
    show Steps p.tables e below (T1.setTop (mkF m 132 #[.val (.int (13 : Int32))] [(.ref s_COMPRESSED)])) _
    exact retOut X1 hx (i := .areturn) Bd.returns rfl (Or.inr (Or.inr (Or.inr (Or.inr ⟨rfl, rfl, rfl⟩)))) (hb hby d0_132) hr
  · exact ⟨rfl, N0, e1⟩
set_option maxRecDepth 65536 in
set_option maxHeartbeats 40000000 in
theorem r53 (l : Launch) (Z : State) (a0 : Array Value) (hw : ∀ d ∈ tables_1, d.before a0 Z = true) (ws : List Jvm.Cond) (h0 : Heap) (n0 : Nat) (s_NO_OP : Addr) (s_END_OF_CONSTRUCTOR : Addr) (s_ASCII_STRING : Addr) (s_BOOLEAN : Addr) (s_UNIQUE_ID : Addr) (s_SEQUENCE : Addr) (s_SET : Addr) (s_INTEGER : Addr) (s_PADDING : Addr) (s_PROPERTY_LIST : Addr) (s_DATE : Addr) (s_BIT_STRING : Addr) (t_BIT_STRING_qualifierTag : Addr) (s_PROPERTY : Addr) (s_FIELD : Addr) (t_FIELD_qualifierTag : Addr) (s_COMPRESSED : Addr) (s_ENCRYPTED : Addr) (t_ENCRYPTED_qualifierTag : Addr) (s_MESSAGE : Addr) (t_MESSAGE_qualifierTag : Addr) (s_EXTENSION : Addr) (s_VENDOR_DEFINED : Addr) (K : Ctx Z h0 s_NO_OP s_END_OF_CONSTRUCTOR s_ASCII_STRING s_BOOLEAN s_UNIQUE_ID s_SEQUENCE s_SET s_INTEGER s_PADDING s_PROPERTY_LIST s_DATE s_BIT_STRING t_BIT_STRING_qualifierTag s_PROPERTY s_FIELD t_FIELD_qualifierTag s_COMPRESSED s_ENCRYPTED t_ENCRYPTED_qualifierTag s_MESSAGE t_MESSAGE_qualifierTag s_EXTENSION s_VENDOR_DEFINED) :
    MetFree l (⟨"com/example/plainwire/plainwire/rfc806/Element", "qualified", "()Z"⟩ : MethodName) (head1 (Jvm.Cond.code (⟨"com/example/plainwire/plainwire/rfc806/Element", "qualified", "()Z"⟩ : MethodName) prog_101_method_9_code 1 (some .boolean) :: ws) ({ frames := 0, cells := 0, slots := 0, locals := 0 } : Room)) (fun a U => a = #[(.ref s_COMPRESSED)] ∧ Z.Warmed39 U.vm ∧ U.heap = h0) (fun _ _ _ _ _ => True) (fun _ U o U' => ∃ v L, o = .returned v ∧ QV (.int (1 : Int32)) h0 n0 v U'.heap L ∧ FrameEnd U o U' L ({ frames := 0, cells := 0, slots := 0, locals := 0 } : Room).cells ({ frames := 0, cells := 0, slots := 0, locals := 0 } : Room).slots) := by
  obtain ⟨S_NO_OP, F_NO_OP_code, E_NO_OP, F_NO_OP_qualifierTag, S_END_OF_CONSTRUCTOR, F_END_OF_CONSTRUCTOR_code, E_END_OF_CONSTRUCTOR, F_END_OF_CONSTRUCTOR_qualifierTag, S_ASCII_STRING, F_ASCII_STRING_code, E_ASCII_STRING, F_ASCII_STRING_qualifierTag, S_BOOLEAN, F_BOOLEAN_code, E_BOOLEAN, F_BOOLEAN_qualifierTag, S_UNIQUE_ID, F_UNIQUE_ID_code, E_UNIQUE_ID, F_UNIQUE_ID_qualifierTag, S_SEQUENCE, F_SEQUENCE_code, E_SEQUENCE, F_SEQUENCE_qualifierTag, S_SET, F_SET_code, E_SET, F_SET_qualifierTag, S_INTEGER, F_INTEGER_code, E_INTEGER, F_INTEGER_qualifierTag, S_PADDING, F_PADDING_code, E_PADDING, F_PADDING_qualifierTag, S_PROPERTY_LIST, F_PROPERTY_LIST_code, E_PROPERTY_LIST, F_PROPERTY_LIST_qualifierTag, S_DATE, F_DATE_code, E_DATE, F_DATE_qualifierTag, S_BIT_STRING, F_BIT_STRING_code, E_BIT_STRING, F_BIT_STRING_qualifierTag, S_PROPERTY, F_PROPERTY_code, E_PROPERTY, F_PROPERTY_qualifierTag, S_COMPRESSED, F_COMPRESSED_code, E_COMPRESSED, F_COMPRESSED_qualifierTag, S_ENCRYPTED, F_ENCRYPTED_code, E_ENCRYPTED, F_ENCRYPTED_qualifierTag, S_FIELD, F_FIELD_code, E_FIELD, F_FIELD_qualifierTag, S_MESSAGE, F_MESSAGE_code, E_MESSAGE, F_MESSAGE_qualifierTag, S_EXTENSION, F_EXTENSION_code, E_EXTENSION, F_EXTENSION_qualifierTag, S_VENDOR_DEFINED, F_VENDOR_DEFINED_code, E_VENDOR_DEFINED, F_VENDOR_DEFINED_qualifierTag⟩ := id K
  refine MetFree.of_bodySF (plainFor_of_name pn1) hisR ?_
  intro p e s m args below meth c s₁ Bd hml0 hP hK
  obtain ⟨rfl, hZ, hh⟩ := hP
  have hx := Bd.exec
  have hby := Bd.bytes
  have hml : c.maxLocals = 1 := hml0
  have hown : s.vm.findClass "com/example/plainwire/plainwire/rfc806/Element" = some m.cls := findClass_of_methodNamed Bd.named
  have X0 : Stand p l e ({ frames := 0, cells := 0, slots := 0, locals := 0 } : Room) s m #[(.ref s_COMPRESSED)] below meth c s₁ [] 0 0 := Stand.of_body Bd
  have e0 : s₁.heap = h0 := by rw [← hh, Bd.state]; rfl
  have N0 := Fr.nil n0
  have pre0 : ∀ t, Steps p.tables e below (s₁.setTop (mkF m 0 #[.val (.ref s_COMPRESSED)] [])) t → Steps p.tables e below (s₁.setTop (entryFrame m #[(.ref s_COMPRESSED)] 1)) t := fun t k => castTop (by first | (simp [entryFrame, mkF, argsToLocals, Value.category]; done) | rfl) k
  obtain ⟨T1, X1, e1, st1⟩ := getF X0 hx hZ hown (host := "") (Or.inl (hw _ (List.mem_of_getElem? (i := 13) rfl))) Via.refl e0 F_COMPRESSED_code (g := (mkF m 1 #[.val (.ref s_COMPRESSED)] [(.ref s_COMPRESSED)])) rfl rfl (hb hby d1_1)
  obtain ⟨fs, hr, hrun, hended, hW, hsame⟩ := X1.leave (v := some (.int (1 : Int32))) (fun h => by rw [Bd.returns] at h; cases h)
  refine ⟨_, _, pre0 _ ?_, hrun, hended, _, _, rfl, ?_, ⟨_, rfl⟩, hW, hsame.mono (by decide) (by decide)⟩
  · show Steps p.tables e below (s₁.setTop (mkF m 0 #[.val (.ref s_COMPRESSED)] [])) _
    refine XS.aloadN X0.here hx rfl (hb hby d1_0) rfl rfl ?_
    show Steps p.tables e below (s₁.setTop (mkF m 1 #[.val (.ref s_COMPRESSED)] [(.ref s_COMPRESSED)])) _
    refine st1 _ ?_
    show Steps p.tables e below (T1.setTop (mkF m 4 #[.val (.ref s_COMPRESSED)] [(.int (70 : Int32))])) _
    refine XS.bipush X1.here hx rfl (hb hby d1_4) ?_
    show Steps p.tables e below (T1.setTop (mkF m 6 #[.val (.ref s_COMPRESSED)] [(.int (64 : Int32)), (.int (70 : Int32))])) _
    refine XS.iand X1.here hx rfl (hb hby d1_6) rfl ?_
    show Steps p.tables e below (T1.setTop (mkF m 7 #[.val (.ref s_COMPRESSED)] [(.int ((70 : Int32) &&& (64 : Int32)))])) _
    rw [show ((70 : Int32) &&& (64 : Int32)) = (64 : Int32) from by decide +kernel]
    show Steps p.tables e below (T1.setTop (mkF m 7 #[.val (.ref s_COMPRESSED)] [(.int (64 : Int32))])) _
    refine XS.ifNo X1.here hx rfl (hb hby d1_7) rfl (by decide +kernel) ?_
    show Steps p.tables e below (T1.setTop (mkF m 10 #[.val (.ref s_COMPRESSED)] [])) _
    refine XS.iconst X1.here hx rfl (hb hby d1_10) ?_
    show Steps p.tables e below (T1.setTop (mkF m 11 #[.val (.ref s_COMPRESSED)] [(.int (1 : Int32))])) _
    refine XS.goto X1.here hx rfl (pc0 := 11) (pc' := 15) rfl (hb hby d1_11) (by decide) (by decide) ?_
    show Steps p.tables e below (T1.setTop (mkF m 15 #[.val (.ref s_COMPRESSED)] [(.int (1 : Int32))])) _
    exact retN X1 hx (t := .boolean) Bd.returns (by simp) (hb hby d1_15) hr
  · exact ⟨rfl, N0, e1⟩
set_option maxRecDepth 65536 in
set_option maxHeartbeats 40000000 in
theorem r54 (l : Launch) (Z : State) (a0 : Array Value) (hw : ∀ d ∈ tables_1, d.before a0 Z = true) (ws : List Jvm.Cond) (h0 : Heap) (n0 : Nat) (s_NO_OP : Addr) (s_END_OF_CONSTRUCTOR : Addr) (s_ASCII_STRING : Addr) (s_BOOLEAN : Addr) (s_UNIQUE_ID : Addr) (s_SEQUENCE : Addr) (s_SET : Addr) (s_INTEGER : Addr) (s_PADDING : Addr) (s_PROPERTY_LIST : Addr) (s_DATE : Addr) (s_BIT_STRING : Addr) (t_BIT_STRING_qualifierTag : Addr) (s_PROPERTY : Addr) (s_FIELD : Addr) (t_FIELD_qualifierTag : Addr) (s_COMPRESSED : Addr) (s_ENCRYPTED : Addr) (t_ENCRYPTED_qualifierTag : Addr) (s_MESSAGE : Addr) (t_MESSAGE_qualifierTag : Addr) (s_EXTENSION : Addr) (s_VENDOR_DEFINED : Addr) (K : Ctx Z h0 s_NO_OP s_END_OF_CONSTRUCTOR s_ASCII_STRING s_BOOLEAN s_UNIQUE_ID s_SEQUENCE s_SET s_INTEGER s_PADDING s_PROPERTY_LIST s_DATE s_BIT_STRING t_BIT_STRING_qualifierTag s_PROPERTY s_FIELD t_FIELD_qualifierTag s_COMPRESSED s_ENCRYPTED t_ENCRYPTED_qualifierTag s_MESSAGE t_MESSAGE_qualifierTag s_EXTENSION s_VENDOR_DEFINED) :
    MetFree l (⟨"com/example/plainwire/plainwire/rfc806/Element", "qualifierTag", "()Ljava/lang/String;"⟩ : MethodName) (head1 (Jvm.Cond.code (⟨"com/example/plainwire/plainwire/rfc806/Element", "qualifierTag", "()Ljava/lang/String;"⟩ : MethodName) prog_101_method_10_code 1 (some (.object "java/lang/String")) :: ws) ({ frames := 0, cells := 0, slots := 0, locals := 0 } : Room)) (fun a U => a = #[(.ref s_COMPRESSED)] ∧ Z.Warmed39 U.vm ∧ U.heap = h0) (fun _ _ _ _ _ => True) (fun _ U o U' => ∃ v L, o = .returned v ∧ QV (.ref t_ENCRYPTED_qualifierTag) h0 n0 v U'.heap L ∧ FrameEnd U o U' L ({ frames := 0, cells := 0, slots := 0, locals := 0 } : Room).cells ({ frames := 0, cells := 0, slots := 0, locals := 0 } : Room).slots) := by
  obtain ⟨S_NO_OP, F_NO_OP_code, E_NO_OP, F_NO_OP_qualifierTag, S_END_OF_CONSTRUCTOR, F_END_OF_CONSTRUCTOR_code, E_END_OF_CONSTRUCTOR, F_END_OF_CONSTRUCTOR_qualifierTag, S_ASCII_STRING, F_ASCII_STRING_code, E_ASCII_STRING, F_ASCII_STRING_qualifierTag, S_BOOLEAN, F_BOOLEAN_code, E_BOOLEAN, F_BOOLEAN_qualifierTag, S_UNIQUE_ID, F_UNIQUE_ID_code, E_UNIQUE_ID, F_UNIQUE_ID_qualifierTag, S_SEQUENCE, F_SEQUENCE_code, E_SEQUENCE, F_SEQUENCE_qualifierTag, S_SET, F_SET_code, E_SET, F_SET_qualifierTag, S_INTEGER, F_INTEGER_code, E_INTEGER, F_INTEGER_qualifierTag, S_PADDING, F_PADDING_code, E_PADDING, F_PADDING_qualifierTag, S_PROPERTY_LIST, F_PROPERTY_LIST_code, E_PROPERTY_LIST, F_PROPERTY_LIST_qualifierTag, S_DATE, F_DATE_code, E_DATE, F_DATE_qualifierTag, S_BIT_STRING, F_BIT_STRING_code, E_BIT_STRING, F_BIT_STRING_qualifierTag, S_PROPERTY, F_PROPERTY_code, E_PROPERTY, F_PROPERTY_qualifierTag, S_COMPRESSED, F_COMPRESSED_code, E_COMPRESSED, F_COMPRESSED_qualifierTag, S_ENCRYPTED, F_ENCRYPTED_code, E_ENCRYPTED, F_ENCRYPTED_qualifierTag, S_FIELD, F_FIELD_code, E_FIELD, F_FIELD_qualifierTag, S_MESSAGE, F_MESSAGE_code, E_MESSAGE, F_MESSAGE_qualifierTag, S_EXTENSION, F_EXTENSION_code, E_EXTENSION, F_EXTENSION_qualifierTag, S_VENDOR_DEFINED, F_VENDOR_DEFINED_code, E_VENDOR_DEFINED, F_VENDOR_DEFINED_qualifierTag⟩ := id K
  refine MetFree.of_bodySF (plainFor_of_name pn2) hisR ?_
  intro p e s m args below meth c s₁ Bd hml0 hP hK
  obtain ⟨rfl, hZ, hh⟩ := hP
  have hx := Bd.exec
  have hby := Bd.bytes
  have hml : c.maxLocals = 1 := hml0
  have hown : s.vm.findClass "com/example/plainwire/plainwire/rfc806/Element" = some m.cls := findClass_of_methodNamed Bd.named
  have X0 : Stand p l e ({ frames := 0, cells := 0, slots := 0, locals := 0 } : Room) s m #[(.ref s_COMPRESSED)] below meth c s₁ [] 0 0 := Stand.of_body Bd
  have e0 : s₁.heap = h0 := by rw [← hh, Bd.state]; rfl
  have N0 := Fr.nil n0
  have pre0 : ∀ t, Steps p.tables e below (s₁.setTop (mkF m 0 #[.val (.ref s_COMPRESSED)] [])) t → Steps p.tables e below (s₁.setTop (entryFrame m #[(.ref s_COMPRESSED)] 1)) t := fun t k => castTop (by first | (simp [entryFrame, mkF, argsToLocals, Value.category]; done) | rfl) k
  obtain ⟨T1, X1, e1, st1⟩ := getF X0 hx hZ hown (host := "") (Or.inl (hw _ (List.mem_of_getElem? (i := 20) rfl))) Via.refl e0 F_COMPRESSED_qualifierTag (g := (mkF m 1 #[.val (.ref s_COMPRESSED)] [(.ref s_COMPRESSED)])) rfl rfl (hb hby d2_1)
  obtain ⟨fs, hr, hrun, hended, hW, hsame⟩ := X1.leave (v := some (.ref t_ENCRYPTED_qualifierTag)) (fun h => by rw [Bd.returns] at h; cases h)
  refine ⟨_, _, pre0 _ ?_, hrun, hended, _, _, rfl, ?_, ⟨_, rfl⟩, hW, hsame.mono (by decide) (by decide)⟩
  · show Steps p.tables e below (s₁.setTop (mkF m 0 #[.val (.ref s_COMPRESSED)] [])) _
    refine XS.aloadN X0.here hx rfl (hb hby d2_0) rfl rfl ?_
    show Steps p.tables e below (s₁.setTop (mkF m 1 #[.val (.ref s_COMPRESSED)] [(.ref s_COMPRESSED)])) _
    refine st1 _ ?_
    show Steps p.tables e below (T1.setTop (mkF m 4 #[.val (.ref s_COMPRESSED)] [(.ref t_ENCRYPTED_qualifierTag)])) _
    exact retOut X1 hx (i := .areturn) Bd.returns rfl (Or.inr (Or.inr (Or.inr (Or.inr ⟨rfl, rfl, rfl⟩)))) (hb hby d2_4) hr
  · exact ⟨rfl, N0, e1⟩
set_option maxRecDepth 65536 in
set_option maxHeartbeats 40000000 in
theorem law_k13 (l : Launch) (Z : State) (a0 : Array Value) (hw : ∀ d ∈ tables_1, d.before a0 Z = true) (ws : List Jvm.Cond) (h0 : Heap) (n0 : Nat) (s_NO_OP : Addr) (s_END_OF_CONSTRUCTOR : Addr) (s_ASCII_STRING : Addr) (s_BOOLEAN : Addr) (s_UNIQUE_ID : Addr) (s_SEQUENCE : Addr) (s_SET : Addr) (s_INTEGER : Addr) (s_PADDING : Addr) (s_PROPERTY_LIST : Addr) (s_DATE : Addr) (s_BIT_STRING : Addr) (t_BIT_STRING_qualifierTag : Addr) (s_PROPERTY : Addr) (s_FIELD : Addr) (t_FIELD_qualifierTag : Addr) (s_COMPRESSED : Addr) (s_ENCRYPTED : Addr) (t_ENCRYPTED_qualifierTag : Addr) (s_MESSAGE : Addr) (t_MESSAGE_qualifierTag : Addr) (s_EXTENSION : Addr) (s_VENDOR_DEFINED : Addr) (K : Ctx Z h0 s_NO_OP s_END_OF_CONSTRUCTOR s_ASCII_STRING s_BOOLEAN s_UNIQUE_ID s_SEQUENCE s_SET s_INTEGER s_PADDING s_PROPERTY_LIST s_DATE s_BIT_STRING t_BIT_STRING_qualifierTag s_PROPERTY s_FIELD t_FIELD_qualifierTag s_COMPRESSED s_ENCRYPTED t_ENCRYPTED_qualifierTag s_MESSAGE t_MESSAGE_qualifierTag s_EXTENSION s_VENDOR_DEFINED) (p0 : Int32) (hp0 : ((p0 &&& (2147483647 : Int32)) % (19 : Int32)) = (13 : Int32)) :
    MetFree l x (head1 (Jvm.Cond.code x code maxLocals ret :: ws) room_1) (fun a U => a = #[(.int p0)] ∧ Z.Warmed39 U.vm ∧ U.heap = h0) (fun _ _ _ _ _ => True) (fun _ U o U' => ∃ v L, o = .returned v ∧ QV (.int (1 : Int32)) h0 n0 v U'.heap L ∧ FrameEnd U o U' L room_1.cells room_1.slots) := by
  obtain ⟨S_NO_OP, F_NO_OP_code, E_NO_OP, F_NO_OP_qualifierTag, S_END_OF_CONSTRUCTOR, F_END_OF_CONSTRUCTOR_code, E_END_OF_CONSTRUCTOR, F_END_OF_CONSTRUCTOR_qualifierTag, S_ASCII_STRING, F_ASCII_STRING_code, E_ASCII_STRING, F_ASCII_STRING_qualifierTag, S_BOOLEAN, F_BOOLEAN_code, E_BOOLEAN, F_BOOLEAN_qualifierTag, S_UNIQUE_ID, F_UNIQUE_ID_code, E_UNIQUE_ID, F_UNIQUE_ID_qualifierTag, S_SEQUENCE, F_SEQUENCE_code, E_SEQUENCE, F_SEQUENCE_qualifierTag, S_SET, F_SET_code, E_SET, F_SET_qualifierTag, S_INTEGER, F_INTEGER_code, E_INTEGER, F_INTEGER_qualifierTag, S_PADDING, F_PADDING_code, E_PADDING, F_PADDING_qualifierTag, S_PROPERTY_LIST, F_PROPERTY_LIST_code, E_PROPERTY_LIST, F_PROPERTY_LIST_qualifierTag, S_DATE, F_DATE_code, E_DATE, F_DATE_qualifierTag, S_BIT_STRING, F_BIT_STRING_code, E_BIT_STRING, F_BIT_STRING_qualifierTag, S_PROPERTY, F_PROPERTY_code, E_PROPERTY, F_PROPERTY_qualifierTag, S_COMPRESSED, F_COMPRESSED_code, E_COMPRESSED, F_COMPRESSED_qualifierTag, S_ENCRYPTED, F_ENCRYPTED_code, E_ENCRYPTED, F_ENCRYPTED_qualifierTag, S_FIELD, F_FIELD_code, E_FIELD, F_FIELD_qualifierTag, S_MESSAGE, F_MESSAGE_code, E_MESSAGE, F_MESSAGE_qualifierTag, S_EXTENSION, F_EXTENSION_code, E_EXTENSION, F_EXTENSION_qualifierTag, S_VENDOR_DEFINED, F_VENDOR_DEFINED_code, E_VENDOR_DEFINED, F_VENDOR_DEFINED_qualifierTag⟩ := id K
  refine MetFree.of_bodySF (plainFor_of_name pn3) hisR ?_
  intro p e s m args below meth c s₁ Bd hml0 hP hK
  obtain ⟨rfl, hZ, hh⟩ := hP
  have hx := Bd.exec
  have hby := Bd.bytes
  have hml : c.maxLocals = 6 := hml0
  have hown : s.vm.findClass "com/example/plainwire/plainwire/rfc806/ElementQualifiedPinLaw" = some m.cls := findClass_of_methodNamed Bd.named
  have X0 : Stand p l e room_1 s m #[(.int p0)] below meth c s₁ [] 0 0 := Stand.of_body Bd
  have e0 : s₁.heap = h0 := by rw [← hh, Bd.state]; rfl
  have N0 := Fr.nil n0
  have pre0 : ∀ t, Steps p.tables e below (s₁.setTop (mkF m 0 #[.val (.int p0), .unset, .unset, .unset, .unset, .unset] [])) t → Steps p.tables e below (s₁.setTop (entryFrame m #[(.int p0)] maxLocals)) t := fun t k => castTop (by first | (simp [entryFrame, mkF, argsToLocals, Value.category, maxLocals]; done) | rfl) k
  obtain ⟨_, _, ⟨T1, L1, k1, n1⟩, -, X1, ⟨Lc1, hQ1, l1, y1, z1⟩, st1⟩ := Jvm.LawKit.callS X0 hx (y := (⟨"com/example/plainwire/plainwire/rfc806/ElementQualifiedPinLaw", "pick", "(I)Lcom/example/plainwire/plainwire/rfc806/Element;"⟩ : MethodName)) hown (mvT hZ (hw _ (List.mem_of_getElem? (i := 1) rfl))) (mvT hZ (hw _ (List.mem_of_getElem? (i := 2) rfl))) (mvT hZ (hw _ (List.mem_of_getElem? (i := 3) rfl))) (mvT hZ (hw _ (List.mem_of_getElem? (i := 4) rfl))) (by decide) (backOf (W := 0) (r52 l Z a0 hw [] h0 n0 s_NO_OP s_END_OF_CONSTRUCTOR s_ASCII_STRING s_BOOLEAN s_UNIQUE_ID s_SEQUENCE s_SET s_INTEGER s_PADDING s_PROPERTY_LIST s_DATE s_BIT_STRING t_BIT_STRING_qualifierTag s_PROPERTY s_FIELD t_FIELD_qualifierTag s_COMPRESSED s_ENCRYPTED t_ENCRYPTED_qualifierTag s_MESSAGE t_MESSAGE_qualifierTag s_EXTENSION s_VENDOR_DEFINED K) hZ (hw _ (List.mem_of_getElem? (i := 4) rfl)) (hw _ (List.mem_of_getElem? (i := 3) rfl)) (by decide) (by decide)) (g := (mkF m 9 #[.val (.int p0), .val (.int (13 : Int32)), .unset, .unset, .unset, .unset] [(.int (13 : Int32))])) rfl (by rw [hml]; rfl) (argsL := [(.int (13 : Int32))]) (rest := []) (lenOf pd0 rfl) rfl (by show 2 * 0 + _ ≤ _; exact Nat.le_of_eq rfl) (hb hby at_9) (fun _ _ => ⟨rfl, e0, (by decide : 0 + 0 ≤ _), (by decide : 0 + 0 ≤ _)⟩)
  dsimp only [Pt.U, Pt.locs, Pt.cells, Pt.slots] at X1 l1 y1 z1 st1 hQ1
  subst l1 y1 z1
  obtain ⟨rfl, N1q, e1⟩ := hQ1
  have N1 := Fr.app N0 N1q
  obtain ⟨cq2, kq2, q2a, q2b, q2c⟩ := isOf hZ e1 E_COMPRESSED
  obtain ⟨_, _, ⟨T2, L2, k2, n2⟩, -, X2, ⟨Lc2, hQ2, l2, y2, z2⟩, st2⟩ := X1.virtualBack hx (y := (⟨"com/example/plainwire/plainwire/rfc806/Element", "qualified", "()Z"⟩ : MethodName)) (z := (⟨"com/example/plainwire/plainwire/rfc806/Element", "qualified", "()Z"⟩ : MethodName)) hown (mvT hZ (hw _ (List.mem_of_getElem? (i := 8) rfl))) (mvT hZ (hw _ (List.mem_of_getElem? (i := 9) rfl))) (notFace_of_selects (args := #[]) (mvT hZ (hw _ (List.mem_of_getElem? (i := 11) rfl)))) (mvT hZ (hw _ (List.mem_of_getElem? (i := 11) rfl))) (mvT hZ (hw _ (List.mem_of_getElem? (i := 10) rfl))) (by decide) (backOf (W := 0) (r53 l Z a0 hw [] h0 n0 s_NO_OP s_END_OF_CONSTRUCTOR s_ASCII_STRING s_BOOLEAN s_UNIQUE_ID s_SEQUENCE s_SET s_INTEGER s_PADDING s_PROPERTY_LIST s_DATE s_BIT_STRING t_BIT_STRING_qualifierTag s_PROPERTY s_FIELD t_FIELD_qualifierTag s_COMPRESSED s_ENCRYPTED t_ENCRYPTED_qualifierTag s_MESSAGE t_MESSAGE_qualifierTag s_EXTENSION s_VENDOR_DEFINED K) hZ (hw _ (List.mem_of_getElem? (i := 12) rfl)) (hw _ (List.mem_of_getElem? (i := 6) rfl)) (by decide) (by decide)) q2a q2c (g := (mkF m 26 #[.val (.int p0), .val (.int (13 : Int32)), .val (.ref s_COMPRESSED), .val (.int (1 : Int32)), .unset, .unset] [(.ref s_COMPRESSED)])) rfl (by rw [hml]; rfl) (Steps.refl _) (argsL := []) (rest := []) (lenOf pd1 rfl) rfl (by show 2 * 0 + _ ≤ _; exact Nat.le_of_eq rfl) (hb hby at_26) (fun _ _ => ⟨rfl, e1, (by decide : 0 + 0 ≤ _), (by decide : 0 + 0 ≤ _)⟩)
  dsimp only [Pt.U, Pt.locs, Pt.cells, Pt.slots] at X2 l2 y2 z2 st2 hQ2
  subst l2 y2 z2
  obtain ⟨rfl, N2q, e2⟩ := hQ2
  have N2 := Fr.app N1 N2q
  obtain ⟨cq3, kq3, q3a, q3b, q3c⟩ := isOf hZ e2 E_COMPRESSED
  obtain ⟨_, _, ⟨T3, L3, k3, n3⟩, -, X3, ⟨Lc3, hQ3, l3, y3, z3⟩, st3⟩ := X2.virtualBack hx (y := (⟨"com/example/plainwire/plainwire/rfc806/Element", "qualifierTag", "()Ljava/lang/String;"⟩ : MethodName)) (z := (⟨"com/example/plainwire/plainwire/rfc806/Element", "qualifierTag", "()Ljava/lang/String;"⟩ : MethodName)) hown (mvT hZ (hw _ (List.mem_of_getElem? (i := 15) rfl))) (mvT hZ (hw _ (List.mem_of_getElem? (i := 16) rfl))) (notFace_of_selects (args := #[]) (mvT hZ (hw _ (List.mem_of_getElem? (i := 18) rfl)))) (mvT hZ (hw _ (List.mem_of_getElem? (i := 18) rfl))) (mvT hZ (hw _ (List.mem_of_getElem? (i := 17) rfl))) (by decide) (backOf (W := 0) (r54 l Z a0 hw [] h0 n0 s_NO_OP s_END_OF_CONSTRUCTOR s_ASCII_STRING s_BOOLEAN s_UNIQUE_ID s_SEQUENCE s_SET s_INTEGER s_PADDING s_PROPERTY_LIST s_DATE s_BIT_STRING t_BIT_STRING_qualifierTag s_PROPERTY s_FIELD t_FIELD_qualifierTag s_COMPRESSED s_ENCRYPTED t_ENCRYPTED_qualifierTag s_MESSAGE t_MESSAGE_qualifierTag s_EXTENSION s_VENDOR_DEFINED K) hZ (hw _ (List.mem_of_getElem? (i := 19) rfl)) (hw _ (List.mem_of_getElem? (i := 6) rfl)) (by decide) (by decide)) q3a q3c (g := (mkF m 32 #[.val (.int p0), .val (.int (13 : Int32)), .val (.ref s_COMPRESSED), .val (.int (1 : Int32)), .val (.int (1 : Int32)), .unset] [(.ref s_COMPRESSED)])) rfl (by rw [hml]; rfl) (Steps.refl _) (argsL := []) (rest := []) (lenOf pd2 rfl) rfl (by show 2 * 0 + _ ≤ _; exact Nat.le_of_eq rfl) (hb hby at_32) (fun _ _ => ⟨rfl, e2, (by decide : 0 + 0 ≤ _), (by decide : 0 + 0 ≤ _)⟩)
  dsimp only [Pt.U, Pt.locs, Pt.cells, Pt.slots] at X3 l3 y3 z3 st3 hQ3
  subst l3 y3 z3
  obtain ⟨rfl, N3q, e3⟩ := hQ3
  have N3 := Fr.app N2 N3q
  obtain ⟨fs, hr, hrun, hended, hW, hsame⟩ := X3.leave (v := some (.int (1 : Int32))) (fun h => by rw [Bd.returns] at h; cases h)
  refine ⟨_, _, pre0 _ ?_, hrun, hended, _, _, rfl, ?_, ⟨_, rfl⟩, hW, hsame.mono (by decide) (by decide)⟩
  · show Steps p.tables e below (s₁.setTop (mkF m 0 #[.val (.int p0), .unset, .unset, .unset, .unset, .unset] [])) _
    refine XS.iloadN X0.here hx rfl (hb hby at_0) rfl ?_
    show Steps p.tables e below (s₁.setTop (mkF m 1 #[.val (.int p0), .unset, .unset, .unset, .unset, .unset] [(.int p0)])) _
    refine X0.ldcInt hx hown (mvT hZ (hw _ (List.mem_of_getElem? (i := 0) rfl))) (g := (mkF m 1 #[.val (.int p0), .unset, .unset, .unset, .unset, .unset] [(.int p0)])) rfl (hb hby at_1) _ ?_
    show Steps p.tables e below (s₁.setTop (mkF m 3 #[.val (.int p0), .unset, .unset, .unset, .unset, .unset] [(.int (2147483647 : Int32)), (.int p0)])) _
    refine XS.iand X0.here hx rfl (hb hby at_3) rfl ?_
    show Steps p.tables e below (s₁.setTop (mkF m 4 #[.val (.int p0), .unset, .unset, .unset, .unset, .unset] [(.int (p0 &&& (2147483647 : Int32)))])) _
    refine XS.bipush X0.here hx rfl (hb hby at_4) ?_
    show Steps p.tables e below (s₁.setTop (mkF m 6 #[.val (.int p0), .unset, .unset, .unset, .unset, .unset] [(.int (19 : Int32)), (.int (p0 &&& (2147483647 : Int32)))])) _
    refine Jvm.RoadKit.iremM X0 hx rfl (hb hby at_6) rfl (by decide) ?_
    show Steps p.tables e below (s₁.setTop (mkF m 7 #[.val (.int p0), .unset, .unset, .unset, .unset, .unset] [(.int ((p0 &&& (2147483647 : Int32)) % (19 : Int32)))])) _
    rw [hp0]
    show Steps p.tables e below (s₁.setTop (mkF m 7 #[.val (.int p0), .unset, .unset, .unset, .unset, .unset] [(.int (13 : Int32))])) _
    refine XS.istoreN X0.here hx rfl (hb hby at_7) rfl (l' := #[.val (.int p0), .val (.int (13 : Int32)), .unset, .unset, .unset, .unset]) rfl ?_
    show Steps p.tables e below (s₁.setTop (mkF m 8 #[.val (.int p0), .val (.int (13 : Int32)), .unset, .unset, .unset, .unset] [])) _
    refine XS.iloadN X0.here hx rfl (hb hby at_8) rfl ?_
    show Steps p.tables e below (s₁.setTop (mkF m 9 #[.val (.int p0), .val (.int (13 : Int32)), .unset, .unset, .unset, .unset] [(.int (13 : Int32))])) _
    refine st1 _ ?_
    show Steps p.tables e below (T1.setTop (mkF m 12 #[.val (.int p0), .val (.int (13 : Int32)), .unset, .unset, .unset, .unset] [(.ref s_COMPRESSED)])) _
    refine XS.astoreN X1.here hx rfl (hb hby at_12) rfl rfl (l' := #[.val (.int p0), .val (.int (13 : Int32)), .val (.ref s_COMPRESSED), .unset, .unset, .unset]) rfl ?_
    show Steps p.tables e below (T1.setTop (mkF m 13 #[.val (.int p0), .val (.int (13 : Int32)), .val (.ref s_COMPRESSED), .unset, .unset, .unset] [])) _
    refine XS.iloadN X1.here hx rfl (hb hby at_13) rfl ?_
    show Steps p.tables e below (T1.setTop (mkF m 14 #[.val (.int p0), .val (.int (13 : Int32)), .val (.ref s_COMPRESSED), .unset, .unset, .unset] [(.int (13 : Int32))])) _
    refine XS.bipush X1.here hx rfl (hb hby at_14) ?_
    show Steps p.tables e below (T1.setTop (mkF m 16 #[.val (.int p0), .val (.int (13 : Int32)), .val (.ref s_COMPRESSED), .unset, .unset, .unset] [(.int (11 : Int32)), (.int (13 : Int32))])) _
    refine XS.icmpNo X1.here hx rfl (hb hby at_16) rfl (by decide +kernel) ?_
    show Steps p.tables e below (T1.setTop (mkF m 19 #[.val (.int p0), .val (.int (13 : Int32)), .val (.ref s_COMPRESSED), .unset, .unset, .unset] [])) _
    refine XS.iconst X1.here hx rfl (hb hby at_19) ?_
    show Steps p.tables e below (T1.setTop (mkF m 20 #[.val (.int p0), .val (.int (13 : Int32)), .val (.ref s_COMPRESSED), .unset, .unset, .unset] [(.int (1 : Int32))])) _
    refine XS.goto X1.here hx rfl (pc0 := 20) (pc' := 24) rfl (hb hby at_20) (by decide) (by decide) ?_
    show Steps p.tables e below (T1.setTop (mkF m 24 #[.val (.int p0), .val (.int (13 : Int32)), .val (.ref s_COMPRESSED), .unset, .unset, .unset] [(.int (1 : Int32))])) _
    refine XS.istoreN X1.here hx rfl (hb hby at_24) rfl (l' := #[.val (.int p0), .val (.int (13 : Int32)), .val (.ref s_COMPRESSED), .val (.int (1 : Int32)), .unset, .unset]) rfl ?_
    show Steps p.tables e below (T1.setTop (mkF m 25 #[.val (.int p0), .val (.int (13 : Int32)), .val (.ref s_COMPRESSED), .val (.int (1 : Int32)), .unset, .unset] [])) _
    refine XS.aloadN X1.here hx rfl (hb hby at_25) rfl rfl ?_
    show Steps p.tables e below (T1.setTop (mkF m 26 #[.val (.int p0), .val (.int (13 : Int32)), .val (.ref s_COMPRESSED), .val (.int (1 : Int32)), .unset, .unset] [(.ref s_COMPRESSED)])) _
    refine st2.trans ?_
    show Steps p.tables e below (T2.setTop (mkF m 29 #[.val (.int p0), .val (.int (13 : Int32)), .val (.ref s_COMPRESSED), .val (.int (1 : Int32)), .unset, .unset] [(.int (1 : Int32))])) _
    refine XS.istore X2.here hx rfl (hb hby at_29) rfl (l' := #[.val (.int p0), .val (.int (13 : Int32)), .val (.ref s_COMPRESSED), .val (.int (1 : Int32)), .val (.int (1 : Int32)), .unset]) rfl ?_
    show Steps p.tables e below (T2.setTop (mkF m 31 #[.val (.int p0), .val (.int (13 : Int32)), .val (.ref s_COMPRESSED), .val (.int (1 : Int32)), .val (.int (1 : Int32)), .unset] [])) _
    refine XS.aloadN X2.here hx rfl (hb hby at_31) rfl rfl ?_
    show Steps p.tables e below (T2.setTop (mkF m 32 #[.val (.int p0), .val (.int (13 : Int32)), .val (.ref s_COMPRESSED), .val (.int (1 : Int32)), .val (.int (1 : Int32)), .unset] [(.ref s_COMPRESSED)])) _
    refine st3.trans ?_
    show Steps p.tables e below (T3.setTop (mkF m 35 #[.val (.int p0), .val (.int (13 : Int32)), .val (.ref s_COMPRESSED), .val (.int (1 : Int32)), .val (.int (1 : Int32)), .unset] [(.ref t_ENCRYPTED_qualifierTag)])) _
    refine XS.ifnullNo X3.here hx rfl (hb hby at_35) rfl ?_
    show Steps p.tables e below (T3.setTop (mkF m 38 #[.val (.int p0), .val (.int (13 : Int32)), .val (.ref s_COMPRESSED), .val (.int (1 : Int32)), .val (.int (1 : Int32)), .unset] [])) _
    refine XS.iconst X3.here hx rfl (hb hby at_38) ?_
    show Steps p.tables e below (T3.setTop (mkF m 39 #[.val (.int p0), .val (.int (13 : Int32)), .val (.ref s_COMPRESSED), .val (.int (1 : Int32)), .val (.int (1 : Int32)), .unset] [(.int (1 : Int32))])) _
    refine XS.goto X3.here hx rfl (pc0 := 39) (pc' := 43) rfl (hb hby at_39) (by decide) (by decide) ?_
    show Steps p.tables e below (T3.setTop (mkF m 43 #[.val (.int p0), .val (.int (13 : Int32)), .val (.ref s_COMPRESSED), .val (.int (1 : Int32)), .val (.int (1 : Int32)), .unset] [(.int (1 : Int32))])) _
    refine XS.istore X3.here hx rfl (hb hby at_43) rfl (l' := #[.val (.int p0), .val (.int (13 : Int32)), .val (.ref s_COMPRESSED), .val (.int (1 : Int32)), .val (.int (1 : Int32)), .val (.int (1 : Int32))]) rfl ?_
    show Steps p.tables e below (T3.setTop (mkF m 45 #[.val (.int p0), .val (.int (13 : Int32)), .val (.ref s_COMPRESSED), .val (.int (1 : Int32)), .val (.int (1 : Int32)), .val (.int (1 : Int32))] [])) _
    refine XS.iload X3.here hx rfl (hb hby at_45) rfl ?_
    show Steps p.tables e below (T3.setTop (mkF m 47 #[.val (.int p0), .val (.int (13 : Int32)), .val (.ref s_COMPRESSED), .val (.int (1 : Int32)), .val (.int (1 : Int32)), .val (.int (1 : Int32))] [(.int (1 : Int32))])) _
    refine XS.iloadN X3.here hx rfl (hb hby at_47) rfl ?_
    show Steps p.tables e below (T3.setTop (mkF m 48 #[.val (.int p0), .val (.int (13 : Int32)), .val (.ref s_COMPRESSED), .val (.int (1 : Int32)), .val (.int (1 : Int32)), .val (.int (1 : Int32))] [(.int (1 : Int32)), (.int (1 : Int32))])) _
    refine XS.icmpNo X3.here hx rfl (hb hby at_48) rfl (by decide +kernel) ?_
    show Steps p.tables e below (T3.setTop (mkF m 51 #[.val (.int p0), .val (.int (13 : Int32)), .val (.ref s_COMPRESSED), .val (.int (1 : Int32)), .val (.int (1 : Int32)), .val (.int (1 : Int32))] [])) _
    refine XS.iload X3.here hx rfl (hb hby at_51) rfl ?_
    show Steps p.tables e below (T3.setTop (mkF m 53 #[.val (.int p0), .val (.int (13 : Int32)), .val (.ref s_COMPRESSED), .val (.int (1 : Int32)), .val (.int (1 : Int32)), .val (.int (1 : Int32))] [(.int (1 : Int32))])) _
    refine XS.iload X3.here hx rfl (hb hby at_53) rfl ?_
    show Steps p.tables e below (T3.setTop (mkF m 55 #[.val (.int p0), .val (.int (13 : Int32)), .val (.ref s_COMPRESSED), .val (.int (1 : Int32)), .val (.int (1 : Int32)), .val (.int (1 : Int32))] [(.int (1 : Int32)), (.int (1 : Int32))])) _
    refine XS.icmpNo X3.here hx rfl (hb hby at_55) rfl (by decide +kernel) ?_
    show Steps p.tables e below (T3.setTop (mkF m 58 #[.val (.int p0), .val (.int (13 : Int32)), .val (.ref s_COMPRESSED), .val (.int (1 : Int32)), .val (.int (1 : Int32)), .val (.int (1 : Int32))] [])) _
    refine XS.iconst X3.here hx rfl (hb hby at_58) ?_
    show Steps p.tables e below (T3.setTop (mkF m 59 #[.val (.int p0), .val (.int (13 : Int32)), .val (.ref s_COMPRESSED), .val (.int (1 : Int32)), .val (.int (1 : Int32)), .val (.int (1 : Int32))] [(.int (1 : Int32))])) _
    refine XS.goto X3.here hx rfl (pc0 := 59) (pc' := 63) rfl (hb hby at_59) (by decide) (by decide) ?_
    show Steps p.tables e below (T3.setTop (mkF m 63 #[.val (.int p0), .val (.int (13 : Int32)), .val (.ref s_COMPRESSED), .val (.int (1 : Int32)), .val (.int (1 : Int32)), .val (.int (1 : Int32))] [(.int (1 : Int32))])) _
    exact retN X3 hx (t := .boolean) Bd.returns (by simp) (hb hby at_63) hr
  · exact ⟨rfl, N3, e3⟩
set_option maxRecDepth 65536 in
set_option maxHeartbeats 40000000 in
theorem r56 (l : Launch) (Z : State) (a0 : Array Value) (hw : ∀ d ∈ tables_1, d.before a0 Z = true) (ws : List Jvm.Cond) (h0 : Heap) (n0 : Nat) (s_NO_OP : Addr) (s_END_OF_CONSTRUCTOR : Addr) (s_ASCII_STRING : Addr) (s_BOOLEAN : Addr) (s_UNIQUE_ID : Addr) (s_SEQUENCE : Addr) (s_SET : Addr) (s_INTEGER : Addr) (s_PADDING : Addr) (s_PROPERTY_LIST : Addr) (s_DATE : Addr) (s_BIT_STRING : Addr) (t_BIT_STRING_qualifierTag : Addr) (s_PROPERTY : Addr) (s_FIELD : Addr) (t_FIELD_qualifierTag : Addr) (s_COMPRESSED : Addr) (s_ENCRYPTED : Addr) (t_ENCRYPTED_qualifierTag : Addr) (s_MESSAGE : Addr) (t_MESSAGE_qualifierTag : Addr) (s_EXTENSION : Addr) (s_VENDOR_DEFINED : Addr) (K : Ctx Z h0 s_NO_OP s_END_OF_CONSTRUCTOR s_ASCII_STRING s_BOOLEAN s_UNIQUE_ID s_SEQUENCE s_SET s_INTEGER s_PADDING s_PROPERTY_LIST s_DATE s_BIT_STRING t_BIT_STRING_qualifierTag s_PROPERTY s_FIELD t_FIELD_qualifierTag s_COMPRESSED s_ENCRYPTED t_ENCRYPTED_qualifierTag s_MESSAGE t_MESSAGE_qualifierTag s_EXTENSION s_VENDOR_DEFINED) :
    MetFree l (⟨"com/example/plainwire/plainwire/rfc806/ElementQualifiedPinLaw", "pick", "(I)Lcom/example/plainwire/plainwire/rfc806/Element;"⟩ : MethodName) (head1 (Jvm.Cond.code (⟨"com/example/plainwire/plainwire/rfc806/ElementQualifiedPinLaw", "pick", "(I)Lcom/example/plainwire/plainwire/rfc806/Element;"⟩ : MethodName) method_2_code 1 (some (.object "com/example/plainwire/plainwire/rfc806/Element")) :: ws) ({ frames := 0, cells := 0, slots := 0, locals := 0 } : Room)) (fun a U => a = #[(.int (14 : Int32))] ∧ Z.Warmed39 U.vm ∧ U.heap = h0) (fun _ _ _ _ _ => True) (fun _ U o U' => ∃ v L, o = .returned v ∧ QV (.ref s_ENCRYPTED) h0 n0 v U'.heap L ∧ FrameEnd U o U' L ({ frames := 0, cells := 0, slots := 0, locals := 0 } : Room).cells ({ frames := 0, cells := 0, slots := 0, locals := 0 } : Room).slots) := by
  obtain ⟨S_NO_OP, F_NO_OP_code, E_NO_OP, F_NO_OP_qualifierTag, S_END_OF_CONSTRUCTOR, F_END_OF_CONSTRUCTOR_code, E_END_OF_CONSTRUCTOR, F_END_OF_CONSTRUCTOR_qualifierTag, S_ASCII_STRING, F_ASCII_STRING_code, E_ASCII_STRING, F_ASCII_STRING_qualifierTag, S_BOOLEAN, F_BOOLEAN_code, E_BOOLEAN, F_BOOLEAN_qualifierTag, S_UNIQUE_ID, F_UNIQUE_ID_code, E_UNIQUE_ID, F_UNIQUE_ID_qualifierTag, S_SEQUENCE, F_SEQUENCE_code, E_SEQUENCE, F_SEQUENCE_qualifierTag, S_SET, F_SET_code, E_SET, F_SET_qualifierTag, S_INTEGER, F_INTEGER_code, E_INTEGER, F_INTEGER_qualifierTag, S_PADDING, F_PADDING_code, E_PADDING, F_PADDING_qualifierTag, S_PROPERTY_LIST, F_PROPERTY_LIST_code, E_PROPERTY_LIST, F_PROPERTY_LIST_qualifierTag, S_DATE, F_DATE_code, E_DATE, F_DATE_qualifierTag, S_BIT_STRING, F_BIT_STRING_code, E_BIT_STRING, F_BIT_STRING_qualifierTag, S_PROPERTY, F_PROPERTY_code, E_PROPERTY, F_PROPERTY_qualifierTag, S_COMPRESSED, F_COMPRESSED_code, E_COMPRESSED, F_COMPRESSED_qualifierTag, S_ENCRYPTED, F_ENCRYPTED_code, E_ENCRYPTED, F_ENCRYPTED_qualifierTag, S_FIELD, F_FIELD_code, E_FIELD, F_FIELD_qualifierTag, S_MESSAGE, F_MESSAGE_code, E_MESSAGE, F_MESSAGE_qualifierTag, S_EXTENSION, F_EXTENSION_code, E_EXTENSION, F_EXTENSION_qualifierTag, S_VENDOR_DEFINED, F_VENDOR_DEFINED_code, E_VENDOR_DEFINED, F_VENDOR_DEFINED_qualifierTag⟩ := id K
  refine MetFree.of_bodySF (plainFor_of_name pn0) hisR ?_
  intro p e s m args below meth c s₁ Bd hml0 hP hK
  obtain ⟨rfl, hZ, hh⟩ := hP
  have hx := Bd.exec
  have hby := Bd.bytes
  have hml : c.maxLocals = 1 := hml0
  have hown : s.vm.findClass "com/example/plainwire/plainwire/rfc806/ElementQualifiedPinLaw" = some m.cls := findClass_of_methodNamed Bd.named
  have X0 : Stand p l e ({ frames := 0, cells := 0, slots := 0, locals := 0 } : Room) s m #[(.int (14 : Int32))] below meth c s₁ [] 0 0 := Stand.of_body Bd
  have e0 : s₁.heap = h0 := by rw [← hh, Bd.state]; rfl
  have N0 := Fr.nil n0
  have pre0 : ∀ t, Steps p.tables e below (s₁.setTop (mkF m 0 #[.val (.int (14 : Int32))] [])) t → Steps p.tables e below (s₁.setTop (entryFrame m #[(.int (14 : Int32))] 1)) t := fun t k => castTop (by first | (simp [entryFrame, mkF, argsToLocals, Value.category]; done) | rfl) k
  obtain ⟨T1, X1, e1, st1⟩ := getS X0 hx hZ hown (host := "") (hw _ (List.mem_of_getElem? (i := 42) rfl)) Via.refl e0 S_ENCRYPTED (g := (mkF m 139 #[.val (.int (14 : Int32))] [])) rfl (hb hby d0_139)
  obtain ⟨fs, hr, hrun, hended, hW, hsame⟩ := X1.leave (v := some (.ref s_ENCRYPTED)) (fun h => by rw [Bd.returns] at h; cases h)
  refine ⟨_, _, pre0 _ ?_, hrun, hended, _, _, rfl, ?_, ⟨_, rfl⟩, hW, hsame.mono (by decide) (by decide)⟩
  · show Steps p.tables e below (s₁.setTop (mkF m 0 #[.val (.int (14 : Int32))] [])) _
    refine XS.iloadN X0.here hx rfl (hb hby d0_0) rfl ?_
    show Steps p.tables e below (s₁.setTop (mkF m 1 #[.val (.int (14 : Int32))] [(.int (14 : Int32))])) _
    refine XS.ifYes X0.here hx rfl (pc0 := 1) (pc' := 8) rfl (hb hby d0_1) rfl (by decide +kernel) (by decide) (by decide) ?_
    show Steps p.tables e below (s₁.setTop (mkF m 8 #[.val (.int (14 : Int32))] [])) _
    refine XS.iloadN X0.here hx rfl (hb hby d0_8) rfl ?_
    show Steps p.tables e below (s₁.setTop (mkF m 9 #[.val (.int (14 : Int32))] [(.int (14 : Int32))])) _
    refine XS.iconst X0.here hx rfl (hb hby d0_9) ?_
    show Steps p.tables e below (s₁.setTop (mkF m 10 #[.val (.int (14 : Int32))] [(.int (1 : Int32)), (.int (14 : Int32))])) _
    refine XS.icmpYes X0.here hx rfl (pc0 := 10) (pc' := 17) rfl (hb hby d0_10) rfl (by decide +kernel) (by decide) (by decide) ?_
    show Steps p.tables e below (s₁.setTop (mkF m 17 #[.val (.int (14 : Int32))] [])) _
    refine XS.iloadN X0.here hx rfl (hb hby d0_17) rfl ?_
    show Steps p.tables e below (s₁.setTop (mkF m 18 #[.val (.int (14 : Int32))] [(.int (14 : Int32))])) _
    refine XS.iconst X0.here hx rfl (hb hby d0_18) ?_
    show Steps p.tables e below (s₁.setTop (mkF m 19 #[.val (.int (14 : Int32))] [(.int (2 : Int32)), (.int (14 : Int32))])) _
    refine XS.icmpYes X0.here hx rfl (pc0 := 19) (pc' := 26) rfl (hb hby d0_19) rfl (by decide +kernel) (by decide) (by decide) ?_
    show Steps p.tables e below (s₁.setTop (mkF m 26 #[.val (.int (14 : Int32))] [])) _
    refine XS.iloadN X0.here hx rfl (hb hby d0_26) rfl ?_
    show Steps p.tables e below (s₁.setTop (mkF m 27 #[.val (.int (14 : Int32))] [(.int (14 : Int32))])) _
    refine XS.iconst X0.here hx rfl (hb hby d0_27) ?_
    show Steps p.tables e below (s₁.setTop (mkF m 28 #[.val (.int (14 : Int32))] [(.int (3 : Int32)), (.int (14 : Int32))])) _
    refine XS.icmpYes X0.here hx rfl (pc0 := 28) (pc' := 35) rfl (hb hby d0_28) rfl (by decide +kernel) (by decide) (by decide) ?_
    show Steps p.tables e below (s₁.setTop (mkF m 35 #[.val (.int (14 : Int32))] [])) _
    refine XS.iloadN X0.here hx rfl (hb hby d0_35) rfl ?_
    show Steps p.tables e below (s₁.setTop (mkF m 36 #[.val (.int (14 : Int32))] [(.int (14 : Int32))])) _
    refine XS.iconst X0.here hx rfl (hb hby d0_36) ?_
    show Steps p.tables e below (s₁.setTop (mkF m 37 #[.val (.int (14 : Int32))] [(.int (4 : Int32)), (.int (14 : Int32))])) _
    refine XS.icmpYes X0.here hx rfl (pc0 := 37) (pc' := 44) rfl (hb hby d0_37) rfl (by decide +kernel) (by decide) (by decide) ?_
    show Steps p.tables e below (s₁.setTop (mkF m 44 #[.val (.int (14 : Int32))] [])) _
    refine XS.iloadN X0.here hx rfl (hb hby d0_44) rfl ?_
    show Steps p.tables e below (s₁.setTop (mkF m 45 #[.val (.int (14 : Int32))] [(.int (14 : Int32))])) _
    refine XS.iconst X0.here hx rfl (hb hby d0_45) ?_
    show Steps p.tables e below (s₁.setTop (mkF m 46 #[.val (.int (14 : Int32))] [(.int (5 : Int32)), (.int (14 : Int32))])) _
    refine XS.icmpYes X0.here hx rfl (pc0 := 46) (pc' := 53) rfl (hb hby d0_46) rfl (by decide +kernel) (by decide) (by decide) ?_
    show Steps p.tables e below (s₁.setTop (mkF m 53 #[.val (.int (14 : Int32))] [])) _
    refine XS.iloadN X0.here hx rfl (hb hby d0_53) rfl ?_
    show Steps p.tables e below (s₁.setTop (mkF m 54 #[.val (.int (14 : Int32))] [(.int (14 : Int32))])) _
    refine XS.bipush X0.here hx rfl (hb hby d0_54) ?_
    show Steps p.tables e below (s₁.setTop (mkF m 56 #[.val (.int (14 : Int32))] [(.int (6 : Int32)), (.int (14 : Int32))])) _
    refine XS.icmpYes X0.here hx rfl (pc0 := 56) (pc' := 63) rfl (hb hby d0_56) rfl (by decide +kernel) (by decide) (by decide) ?_
    show Steps p.tables e below (s₁.setTop (mkF m 63 #[.val (.int (14 : Int32))] [])) _
    refine XS.iloadN X0.here hx rfl (hb hby d0_63) rfl ?_
    show Steps p.tables e below (s₁.setTop (mkF m 64 #[.val (.int (14 : Int32))] [(.int (14 : Int32))])) _
    refine XS.bipush X0.here hx rfl (hb hby d0_64) ?_
    show Steps p.tables e below (s₁.setTop (mkF m 66 #[.val (.int (14 : Int32))] [(.int (7 : Int32)), (.int (14 : Int32))])) _
    refine XS.icmpYes X0.here hx rfl (pc0 := 66) (pc' := 73) rfl (hb hby d0_66) rfl (by decide +kernel) (by decide) (by decide) ?_
    show Steps p.tables e below (s₁.setTop (mkF m 73 #[.val (.int (14 : Int32))] [])) _
    refine XS.iloadN X0.here hx rfl (hb hby d0_73) rfl ?_
    show Steps p.tables e below (s₁.setTop (mkF m 74 #[.val (.int (14 : Int32))] [(.int (14 : Int32))])) _
    refine XS.bipush X0.here hx rfl (hb hby d0_74) ?_
    show Steps p.tables e below (s₁.setTop (mkF m 76 #[.val (.int (14 : Int32))] [(.int (8 : Int32)), (.int (14 : Int32))])) _
    refine XS.icmpYes X0.here hx rfl (pc0 := 76) (pc' := 83) rfl (hb hby d0_76) rfl (by decide +kernel) (by decide) (by decide) ?_
    show Steps p.tables e below (s₁.setTop (mkF m 83 #[.val (.int (14 : Int32))] [])) _
    refine XS.iloadN X0.here hx rfl (hb hby d0_83) rfl ?_
    show Steps p.tables e below (s₁.setTop (mkF m 84 #[.val (.int (14 : Int32))] [(.int (14 : Int32))])) _
    refine XS.bipush X0.here hx rfl (hb hby d0_84) ?_
    show Steps p.tables e below (s₁.setTop (mkF m 86 #[.val (.int (14 : Int32))] [(.int (9 : Int32)), (.int (14 : Int32))])) _
    refine XS.icmpYes X0.here hx rfl (pc0 := 86) (pc' := 93) rfl (hb hby d0_86) rfl (by decide +kernel) (by decide) (by decide) ?_
    show Steps p.tables e below (s₁.setTop (mkF m 93 #[.val (.int (14 : Int32))] [])) _
    refine XS.iloadN X0.here hx rfl (hb hby d0_93) rfl ?_
    show Steps p.tables e below (s₁.setTop (mkF m 94 #[.val (.int (14 : Int32))] [(.int (14 : Int32))])) _
    refine XS.bipush X0.here hx rfl (hb hby d0_94) ?_
    show Steps p.tables e below (s₁.setTop (mkF m 96 #[.val (.int (14 : Int32))] [(.int (10 : Int32)), (.int (14 : Int32))])) _
    refine XS.icmpYes X0.here hx rfl (pc0 := 96) (pc' := 103) rfl (hb hby d0_96) rfl (by decide +kernel) (by decide) (by decide) ?_
    show Steps p.tables e below (s₁.setTop (mkF m 103 #[.val (.int (14 : Int32))] [])) _
    refine XS.iloadN X0.here hx rfl (hb hby d0_103) rfl ?_
    show Steps p.tables e below (s₁.setTop (mkF m 104 #[.val (.int (14 : Int32))] [(.int (14 : Int32))])) _
    refine XS.bipush X0.here hx rfl (hb hby d0_104) ?_
    show Steps p.tables e below (s₁.setTop (mkF m 106 #[.val (.int (14 : Int32))] [(.int (11 : Int32)), (.int (14 : Int32))])) _
    refine XS.icmpYes X0.here hx rfl (pc0 := 106) (pc' := 113) rfl (hb hby d0_106) rfl (by decide +kernel) (by decide) (by decide) ?_
    show Steps p.tables e below (s₁.setTop (mkF m 113 #[.val (.int (14 : Int32))] [])) _
    refine XS.iloadN X0.here hx rfl (hb hby d0_113) rfl ?_
    show Steps p.tables e below (s₁.setTop (mkF m 114 #[.val (.int (14 : Int32))] [(.int (14 : Int32))])) _
    refine XS.bipush X0.here hx rfl (hb hby d0_114) ?_
    show Steps p.tables e below (s₁.setTop (mkF m 116 #[.val (.int (14 : Int32))] [(.int (12 : Int32)), (.int (14 : Int32))])) _
    refine XS.icmpYes X0.here hx rfl (pc0 := 116) (pc' := 123) rfl (hb hby d0_116) rfl (by decide +kernel) (by decide) (by decide) ?_
    show Steps p.tables e below (s₁.setTop (mkF m 123 #[.val (.int (14 : Int32))] [])) _
    refine XS.iloadN X0.here hx rfl (hb hby d0_123) rfl ?_
    show Steps p.tables e below (s₁.setTop (mkF m 124 #[.val (.int (14 : Int32))] [(.int (14 : Int32))])) _
    refine XS.bipush X0.here hx rfl (hb hby d0_124) ?_
    show Steps p.tables e below (s₁.setTop (mkF m 126 #[.val (.int (14 : Int32))] [(.int (13 : Int32)), (.int (14 : Int32))])) _
    refine XS.icmpYes X0.here hx rfl (pc0 := 126) (pc' := 133) rfl (hb hby d0_126) rfl (by decide +kernel) (by decide) (by decide) ?_
    show Steps p.tables e below (s₁.setTop (mkF m 133 #[.val (.int (14 : Int32))] [])) _
    refine XS.iloadN X0.here hx rfl (hb hby d0_133) rfl ?_
    show Steps p.tables e below (s₁.setTop (mkF m 134 #[.val (.int (14 : Int32))] [(.int (14 : Int32))])) _
    refine XS.bipush X0.here hx rfl (hb hby d0_134) ?_
    show Steps p.tables e below (s₁.setTop (mkF m 136 #[.val (.int (14 : Int32))] [(.int (14 : Int32)), (.int (14 : Int32))])) _
    refine XS.icmpNo X0.here hx rfl (hb hby d0_136) rfl (by decide +kernel) ?_
    show Steps p.tables e below (s₁.setTop (mkF m 139 #[.val (.int (14 : Int32))] [])) _
    refine st1 _ ?_
    show Steps p.tables e below (T1.setTop (mkF m 142 #[.val (.int (14 : Int32))] [(.ref s_ENCRYPTED)])) _
    exact retOut X1 hx (i := .areturn) Bd.returns rfl (Or.inr (Or.inr (Or.inr (Or.inr ⟨rfl, rfl, rfl⟩)))) (hb hby d0_142) hr
  · exact ⟨rfl, N0, e1⟩
set_option maxRecDepth 65536 in
set_option maxHeartbeats 40000000 in
theorem r57 (l : Launch) (Z : State) (a0 : Array Value) (hw : ∀ d ∈ tables_1, d.before a0 Z = true) (ws : List Jvm.Cond) (h0 : Heap) (n0 : Nat) (s_NO_OP : Addr) (s_END_OF_CONSTRUCTOR : Addr) (s_ASCII_STRING : Addr) (s_BOOLEAN : Addr) (s_UNIQUE_ID : Addr) (s_SEQUENCE : Addr) (s_SET : Addr) (s_INTEGER : Addr) (s_PADDING : Addr) (s_PROPERTY_LIST : Addr) (s_DATE : Addr) (s_BIT_STRING : Addr) (t_BIT_STRING_qualifierTag : Addr) (s_PROPERTY : Addr) (s_FIELD : Addr) (t_FIELD_qualifierTag : Addr) (s_COMPRESSED : Addr) (s_ENCRYPTED : Addr) (t_ENCRYPTED_qualifierTag : Addr) (s_MESSAGE : Addr) (t_MESSAGE_qualifierTag : Addr) (s_EXTENSION : Addr) (s_VENDOR_DEFINED : Addr) (K : Ctx Z h0 s_NO_OP s_END_OF_CONSTRUCTOR s_ASCII_STRING s_BOOLEAN s_UNIQUE_ID s_SEQUENCE s_SET s_INTEGER s_PADDING s_PROPERTY_LIST s_DATE s_BIT_STRING t_BIT_STRING_qualifierTag s_PROPERTY s_FIELD t_FIELD_qualifierTag s_COMPRESSED s_ENCRYPTED t_ENCRYPTED_qualifierTag s_MESSAGE t_MESSAGE_qualifierTag s_EXTENSION s_VENDOR_DEFINED) :
    MetFree l (⟨"com/example/plainwire/plainwire/rfc806/Element", "qualified", "()Z"⟩ : MethodName) (head1 (Jvm.Cond.code (⟨"com/example/plainwire/plainwire/rfc806/Element", "qualified", "()Z"⟩ : MethodName) prog_101_method_9_code 1 (some .boolean) :: ws) ({ frames := 0, cells := 0, slots := 0, locals := 0 } : Room)) (fun a U => a = #[(.ref s_ENCRYPTED)] ∧ Z.Warmed39 U.vm ∧ U.heap = h0) (fun _ _ _ _ _ => True) (fun _ U o U' => ∃ v L, o = .returned v ∧ QV (.int (1 : Int32)) h0 n0 v U'.heap L ∧ FrameEnd U o U' L ({ frames := 0, cells := 0, slots := 0, locals := 0 } : Room).cells ({ frames := 0, cells := 0, slots := 0, locals := 0 } : Room).slots) := by
  obtain ⟨S_NO_OP, F_NO_OP_code, E_NO_OP, F_NO_OP_qualifierTag, S_END_OF_CONSTRUCTOR, F_END_OF_CONSTRUCTOR_code, E_END_OF_CONSTRUCTOR, F_END_OF_CONSTRUCTOR_qualifierTag, S_ASCII_STRING, F_ASCII_STRING_code, E_ASCII_STRING, F_ASCII_STRING_qualifierTag, S_BOOLEAN, F_BOOLEAN_code, E_BOOLEAN, F_BOOLEAN_qualifierTag, S_UNIQUE_ID, F_UNIQUE_ID_code, E_UNIQUE_ID, F_UNIQUE_ID_qualifierTag, S_SEQUENCE, F_SEQUENCE_code, E_SEQUENCE, F_SEQUENCE_qualifierTag, S_SET, F_SET_code, E_SET, F_SET_qualifierTag, S_INTEGER, F_INTEGER_code, E_INTEGER, F_INTEGER_qualifierTag, S_PADDING, F_PADDING_code, E_PADDING, F_PADDING_qualifierTag, S_PROPERTY_LIST, F_PROPERTY_LIST_code, E_PROPERTY_LIST, F_PROPERTY_LIST_qualifierTag, S_DATE, F_DATE_code, E_DATE, F_DATE_qualifierTag, S_BIT_STRING, F_BIT_STRING_code, E_BIT_STRING, F_BIT_STRING_qualifierTag, S_PROPERTY, F_PROPERTY_code, E_PROPERTY, F_PROPERTY_qualifierTag, S_COMPRESSED, F_COMPRESSED_code, E_COMPRESSED, F_COMPRESSED_qualifierTag, S_ENCRYPTED, F_ENCRYPTED_code, E_ENCRYPTED, F_ENCRYPTED_qualifierTag, S_FIELD, F_FIELD_code, E_FIELD, F_FIELD_qualifierTag, S_MESSAGE, F_MESSAGE_code, E_MESSAGE, F_MESSAGE_qualifierTag, S_EXTENSION, F_EXTENSION_code, E_EXTENSION, F_EXTENSION_qualifierTag, S_VENDOR_DEFINED, F_VENDOR_DEFINED_code, E_VENDOR_DEFINED, F_VENDOR_DEFINED_qualifierTag⟩ := id K
  refine MetFree.of_bodySF (plainFor_of_name pn1) hisR ?_
  intro p e s m args below meth c s₁ Bd hml0 hP hK
  obtain ⟨rfl, hZ, hh⟩ := hP
  have hx := Bd.exec
  have hby := Bd.bytes
  have hml : c.maxLocals = 1 := hml0
  have hown : s.vm.findClass "com/example/plainwire/plainwire/rfc806/Element" = some m.cls := findClass_of_methodNamed Bd.named
  have X0 : Stand p l e ({ frames := 0, cells := 0, slots := 0, locals := 0 } : Room) s m #[(.ref s_ENCRYPTED)] below meth c s₁ [] 0 0 := Stand.of_body Bd
  have e0 : s₁.heap = h0 := by rw [← hh, Bd.state]; rfl
  have N0 := Fr.nil n0
  have pre0 : ∀ t, Steps p.tables e below (s₁.setTop (mkF m 0 #[.val (.ref s_ENCRYPTED)] [])) t → Steps p.tables e below (s₁.setTop (entryFrame m #[(.ref s_ENCRYPTED)] 1)) t := fun t k => castTop (by first | (simp [entryFrame, mkF, argsToLocals, Value.category]; done) | rfl) k
  obtain ⟨T1, X1, e1, st1⟩ := getF X0 hx hZ hown (host := "") (Or.inl (hw _ (List.mem_of_getElem? (i := 13) rfl))) Via.refl e0 F_ENCRYPTED_code (g := (mkF m 1 #[.val (.ref s_ENCRYPTED)] [(.ref s_ENCRYPTED)])) rfl rfl (hb hby d1_1)
  obtain ⟨fs, hr, hrun, hended, hW, hsame⟩ := X1.leave (v := some (.int (1 : Int32))) (fun h => by rw [Bd.returns] at h; cases h)
  refine ⟨_, _, pre0 _ ?_, hrun, hended, _, _, rfl, ?_, ⟨_, rfl⟩, hW, hsame.mono (by decide) (by decide)⟩
  · show Steps p.tables e below (s₁.setTop (mkF m 0 #[.val (.ref s_ENCRYPTED)] [])) _
    refine XS.aloadN X0.here hx rfl (hb hby d1_0) rfl rfl ?_
    show Steps p.tables e below (s₁.setTop (mkF m 1 #[.val (.ref s_ENCRYPTED)] [(.ref s_ENCRYPTED)])) _
    refine st1 _ ?_
    show Steps p.tables e below (T1.setTop (mkF m 4 #[.val (.ref s_ENCRYPTED)] [(.int (71 : Int32))])) _
    refine XS.bipush X1.here hx rfl (hb hby d1_4) ?_
    show Steps p.tables e below (T1.setTop (mkF m 6 #[.val (.ref s_ENCRYPTED)] [(.int (64 : Int32)), (.int (71 : Int32))])) _
    refine XS.iand X1.here hx rfl (hb hby d1_6) rfl ?_
    show Steps p.tables e below (T1.setTop (mkF m 7 #[.val (.ref s_ENCRYPTED)] [(.int ((71 : Int32) &&& (64 : Int32)))])) _
    rw [show ((71 : Int32) &&& (64 : Int32)) = (64 : Int32) from by decide +kernel]
    show Steps p.tables e below (T1.setTop (mkF m 7 #[.val (.ref s_ENCRYPTED)] [(.int (64 : Int32))])) _
    refine XS.ifNo X1.here hx rfl (hb hby d1_7) rfl (by decide +kernel) ?_
    show Steps p.tables e below (T1.setTop (mkF m 10 #[.val (.ref s_ENCRYPTED)] [])) _
    refine XS.iconst X1.here hx rfl (hb hby d1_10) ?_
    show Steps p.tables e below (T1.setTop (mkF m 11 #[.val (.ref s_ENCRYPTED)] [(.int (1 : Int32))])) _
    refine XS.goto X1.here hx rfl (pc0 := 11) (pc' := 15) rfl (hb hby d1_11) (by decide) (by decide) ?_
    show Steps p.tables e below (T1.setTop (mkF m 15 #[.val (.ref s_ENCRYPTED)] [(.int (1 : Int32))])) _
    exact retN X1 hx (t := .boolean) Bd.returns (by simp) (hb hby d1_15) hr
  · exact ⟨rfl, N0, e1⟩
set_option maxRecDepth 65536 in
set_option maxHeartbeats 40000000 in
theorem r58 (l : Launch) (Z : State) (a0 : Array Value) (hw : ∀ d ∈ tables_1, d.before a0 Z = true) (ws : List Jvm.Cond) (h0 : Heap) (n0 : Nat) (s_NO_OP : Addr) (s_END_OF_CONSTRUCTOR : Addr) (s_ASCII_STRING : Addr) (s_BOOLEAN : Addr) (s_UNIQUE_ID : Addr) (s_SEQUENCE : Addr) (s_SET : Addr) (s_INTEGER : Addr) (s_PADDING : Addr) (s_PROPERTY_LIST : Addr) (s_DATE : Addr) (s_BIT_STRING : Addr) (t_BIT_STRING_qualifierTag : Addr) (s_PROPERTY : Addr) (s_FIELD : Addr) (t_FIELD_qualifierTag : Addr) (s_COMPRESSED : Addr) (s_ENCRYPTED : Addr) (t_ENCRYPTED_qualifierTag : Addr) (s_MESSAGE : Addr) (t_MESSAGE_qualifierTag : Addr) (s_EXTENSION : Addr) (s_VENDOR_DEFINED : Addr) (K : Ctx Z h0 s_NO_OP s_END_OF_CONSTRUCTOR s_ASCII_STRING s_BOOLEAN s_UNIQUE_ID s_SEQUENCE s_SET s_INTEGER s_PADDING s_PROPERTY_LIST s_DATE s_BIT_STRING t_BIT_STRING_qualifierTag s_PROPERTY s_FIELD t_FIELD_qualifierTag s_COMPRESSED s_ENCRYPTED t_ENCRYPTED_qualifierTag s_MESSAGE t_MESSAGE_qualifierTag s_EXTENSION s_VENDOR_DEFINED) :
    MetFree l (⟨"com/example/plainwire/plainwire/rfc806/Element", "qualifierTag", "()Ljava/lang/String;"⟩ : MethodName) (head1 (Jvm.Cond.code (⟨"com/example/plainwire/plainwire/rfc806/Element", "qualifierTag", "()Ljava/lang/String;"⟩ : MethodName) prog_101_method_10_code 1 (some (.object "java/lang/String")) :: ws) ({ frames := 0, cells := 0, slots := 0, locals := 0 } : Room)) (fun a U => a = #[(.ref s_ENCRYPTED)] ∧ Z.Warmed39 U.vm ∧ U.heap = h0) (fun _ _ _ _ _ => True) (fun _ U o U' => ∃ v L, o = .returned v ∧ QV (.ref t_ENCRYPTED_qualifierTag) h0 n0 v U'.heap L ∧ FrameEnd U o U' L ({ frames := 0, cells := 0, slots := 0, locals := 0 } : Room).cells ({ frames := 0, cells := 0, slots := 0, locals := 0 } : Room).slots) := by
  obtain ⟨S_NO_OP, F_NO_OP_code, E_NO_OP, F_NO_OP_qualifierTag, S_END_OF_CONSTRUCTOR, F_END_OF_CONSTRUCTOR_code, E_END_OF_CONSTRUCTOR, F_END_OF_CONSTRUCTOR_qualifierTag, S_ASCII_STRING, F_ASCII_STRING_code, E_ASCII_STRING, F_ASCII_STRING_qualifierTag, S_BOOLEAN, F_BOOLEAN_code, E_BOOLEAN, F_BOOLEAN_qualifierTag, S_UNIQUE_ID, F_UNIQUE_ID_code, E_UNIQUE_ID, F_UNIQUE_ID_qualifierTag, S_SEQUENCE, F_SEQUENCE_code, E_SEQUENCE, F_SEQUENCE_qualifierTag, S_SET, F_SET_code, E_SET, F_SET_qualifierTag, S_INTEGER, F_INTEGER_code, E_INTEGER, F_INTEGER_qualifierTag, S_PADDING, F_PADDING_code, E_PADDING, F_PADDING_qualifierTag, S_PROPERTY_LIST, F_PROPERTY_LIST_code, E_PROPERTY_LIST, F_PROPERTY_LIST_qualifierTag, S_DATE, F_DATE_code, E_DATE, F_DATE_qualifierTag, S_BIT_STRING, F_BIT_STRING_code, E_BIT_STRING, F_BIT_STRING_qualifierTag, S_PROPERTY, F_PROPERTY_code, E_PROPERTY, F_PROPERTY_qualifierTag, S_COMPRESSED, F_COMPRESSED_code, E_COMPRESSED, F_COMPRESSED_qualifierTag, S_ENCRYPTED, F_ENCRYPTED_code, E_ENCRYPTED, F_ENCRYPTED_qualifierTag, S_FIELD, F_FIELD_code, E_FIELD, F_FIELD_qualifierTag, S_MESSAGE, F_MESSAGE_code, E_MESSAGE, F_MESSAGE_qualifierTag, S_EXTENSION, F_EXTENSION_code, E_EXTENSION, F_EXTENSION_qualifierTag, S_VENDOR_DEFINED, F_VENDOR_DEFINED_code, E_VENDOR_DEFINED, F_VENDOR_DEFINED_qualifierTag⟩ := id K
  refine MetFree.of_bodySF (plainFor_of_name pn2) hisR ?_
  intro p e s m args below meth c s₁ Bd hml0 hP hK
  obtain ⟨rfl, hZ, hh⟩ := hP
  have hx := Bd.exec
  have hby := Bd.bytes
  have hml : c.maxLocals = 1 := hml0
  have hown : s.vm.findClass "com/example/plainwire/plainwire/rfc806/Element" = some m.cls := findClass_of_methodNamed Bd.named
  have X0 : Stand p l e ({ frames := 0, cells := 0, slots := 0, locals := 0 } : Room) s m #[(.ref s_ENCRYPTED)] below meth c s₁ [] 0 0 := Stand.of_body Bd
  have e0 : s₁.heap = h0 := by rw [← hh, Bd.state]; rfl
  have N0 := Fr.nil n0
  have pre0 : ∀ t, Steps p.tables e below (s₁.setTop (mkF m 0 #[.val (.ref s_ENCRYPTED)] [])) t → Steps p.tables e below (s₁.setTop (entryFrame m #[(.ref s_ENCRYPTED)] 1)) t := fun t k => castTop (by first | (simp [entryFrame, mkF, argsToLocals, Value.category]; done) | rfl) k
  obtain ⟨T1, X1, e1, st1⟩ := getF X0 hx hZ hown (host := "") (Or.inl (hw _ (List.mem_of_getElem? (i := 20) rfl))) Via.refl e0 F_ENCRYPTED_qualifierTag (g := (mkF m 1 #[.val (.ref s_ENCRYPTED)] [(.ref s_ENCRYPTED)])) rfl rfl (hb hby d2_1)
  obtain ⟨fs, hr, hrun, hended, hW, hsame⟩ := X1.leave (v := some (.ref t_ENCRYPTED_qualifierTag)) (fun h => by rw [Bd.returns] at h; cases h)
  refine ⟨_, _, pre0 _ ?_, hrun, hended, _, _, rfl, ?_, ⟨_, rfl⟩, hW, hsame.mono (by decide) (by decide)⟩
  · show Steps p.tables e below (s₁.setTop (mkF m 0 #[.val (.ref s_ENCRYPTED)] [])) _
    refine XS.aloadN X0.here hx rfl (hb hby d2_0) rfl rfl ?_
    show Steps p.tables e below (s₁.setTop (mkF m 1 #[.val (.ref s_ENCRYPTED)] [(.ref s_ENCRYPTED)])) _
    refine st1 _ ?_
    show Steps p.tables e below (T1.setTop (mkF m 4 #[.val (.ref s_ENCRYPTED)] [(.ref t_ENCRYPTED_qualifierTag)])) _
    exact retOut X1 hx (i := .areturn) Bd.returns rfl (Or.inr (Or.inr (Or.inr (Or.inr ⟨rfl, rfl, rfl⟩)))) (hb hby d2_4) hr
  · exact ⟨rfl, N0, e1⟩
set_option maxRecDepth 65536 in
set_option maxHeartbeats 40000000 in
theorem law_k14 (l : Launch) (Z : State) (a0 : Array Value) (hw : ∀ d ∈ tables_1, d.before a0 Z = true) (ws : List Jvm.Cond) (h0 : Heap) (n0 : Nat) (s_NO_OP : Addr) (s_END_OF_CONSTRUCTOR : Addr) (s_ASCII_STRING : Addr) (s_BOOLEAN : Addr) (s_UNIQUE_ID : Addr) (s_SEQUENCE : Addr) (s_SET : Addr) (s_INTEGER : Addr) (s_PADDING : Addr) (s_PROPERTY_LIST : Addr) (s_DATE : Addr) (s_BIT_STRING : Addr) (t_BIT_STRING_qualifierTag : Addr) (s_PROPERTY : Addr) (s_FIELD : Addr) (t_FIELD_qualifierTag : Addr) (s_COMPRESSED : Addr) (s_ENCRYPTED : Addr) (t_ENCRYPTED_qualifierTag : Addr) (s_MESSAGE : Addr) (t_MESSAGE_qualifierTag : Addr) (s_EXTENSION : Addr) (s_VENDOR_DEFINED : Addr) (K : Ctx Z h0 s_NO_OP s_END_OF_CONSTRUCTOR s_ASCII_STRING s_BOOLEAN s_UNIQUE_ID s_SEQUENCE s_SET s_INTEGER s_PADDING s_PROPERTY_LIST s_DATE s_BIT_STRING t_BIT_STRING_qualifierTag s_PROPERTY s_FIELD t_FIELD_qualifierTag s_COMPRESSED s_ENCRYPTED t_ENCRYPTED_qualifierTag s_MESSAGE t_MESSAGE_qualifierTag s_EXTENSION s_VENDOR_DEFINED) (p0 : Int32) (hp0 : ((p0 &&& (2147483647 : Int32)) % (19 : Int32)) = (14 : Int32)) :
    MetFree l x (head1 (Jvm.Cond.code x code maxLocals ret :: ws) room_1) (fun a U => a = #[(.int p0)] ∧ Z.Warmed39 U.vm ∧ U.heap = h0) (fun _ _ _ _ _ => True) (fun _ U o U' => ∃ v L, o = .returned v ∧ QV (.int (1 : Int32)) h0 n0 v U'.heap L ∧ FrameEnd U o U' L room_1.cells room_1.slots) := by
  obtain ⟨S_NO_OP, F_NO_OP_code, E_NO_OP, F_NO_OP_qualifierTag, S_END_OF_CONSTRUCTOR, F_END_OF_CONSTRUCTOR_code, E_END_OF_CONSTRUCTOR, F_END_OF_CONSTRUCTOR_qualifierTag, S_ASCII_STRING, F_ASCII_STRING_code, E_ASCII_STRING, F_ASCII_STRING_qualifierTag, S_BOOLEAN, F_BOOLEAN_code, E_BOOLEAN, F_BOOLEAN_qualifierTag, S_UNIQUE_ID, F_UNIQUE_ID_code, E_UNIQUE_ID, F_UNIQUE_ID_qualifierTag, S_SEQUENCE, F_SEQUENCE_code, E_SEQUENCE, F_SEQUENCE_qualifierTag, S_SET, F_SET_code, E_SET, F_SET_qualifierTag, S_INTEGER, F_INTEGER_code, E_INTEGER, F_INTEGER_qualifierTag, S_PADDING, F_PADDING_code, E_PADDING, F_PADDING_qualifierTag, S_PROPERTY_LIST, F_PROPERTY_LIST_code, E_PROPERTY_LIST, F_PROPERTY_LIST_qualifierTag, S_DATE, F_DATE_code, E_DATE, F_DATE_qualifierTag, S_BIT_STRING, F_BIT_STRING_code, E_BIT_STRING, F_BIT_STRING_qualifierTag, S_PROPERTY, F_PROPERTY_code, E_PROPERTY, F_PROPERTY_qualifierTag, S_COMPRESSED, F_COMPRESSED_code, E_COMPRESSED, F_COMPRESSED_qualifierTag, S_ENCRYPTED, F_ENCRYPTED_code, E_ENCRYPTED, F_ENCRYPTED_qualifierTag, S_FIELD, F_FIELD_code, E_FIELD, F_FIELD_qualifierTag, S_MESSAGE, F_MESSAGE_code, E_MESSAGE, F_MESSAGE_qualifierTag, S_EXTENSION, F_EXTENSION_code, E_EXTENSION, F_EXTENSION_qualifierTag, S_VENDOR_DEFINED, F_VENDOR_DEFINED_code, E_VENDOR_DEFINED, F_VENDOR_DEFINED_qualifierTag⟩ := id K
  refine MetFree.of_bodySF (plainFor_of_name pn3) hisR ?_
  intro p e s m args below meth c s₁ Bd hml0 hP hK
  obtain ⟨rfl, hZ, hh⟩ := hP
  have hx := Bd.exec
  have hby := Bd.bytes
  have hml : c.maxLocals = 6 := hml0
  have hown : s.vm.findClass "com/example/plainwire/plainwire/rfc806/ElementQualifiedPinLaw" = some m.cls := findClass_of_methodNamed Bd.named
  have X0 : Stand p l e room_1 s m #[(.int p0)] below meth c s₁ [] 0 0 := Stand.of_body Bd
  have e0 : s₁.heap = h0 := by rw [← hh, Bd.state]; rfl
  have N0 := Fr.nil n0
  have pre0 : ∀ t, Steps p.tables e below (s₁.setTop (mkF m 0 #[.val (.int p0), .unset, .unset, .unset, .unset, .unset] [])) t → Steps p.tables e below (s₁.setTop (entryFrame m #[(.int p0)] maxLocals)) t := fun t k => castTop (by first | (simp [entryFrame, mkF, argsToLocals, Value.category, maxLocals]; done) | rfl) k
  obtain ⟨_, _, ⟨T1, L1, k1, n1⟩, -, X1, ⟨Lc1, hQ1, l1, y1, z1⟩, st1⟩ := Jvm.LawKit.callS X0 hx (y := (⟨"com/example/plainwire/plainwire/rfc806/ElementQualifiedPinLaw", "pick", "(I)Lcom/example/plainwire/plainwire/rfc806/Element;"⟩ : MethodName)) hown (mvT hZ (hw _ (List.mem_of_getElem? (i := 1) rfl))) (mvT hZ (hw _ (List.mem_of_getElem? (i := 2) rfl))) (mvT hZ (hw _ (List.mem_of_getElem? (i := 3) rfl))) (mvT hZ (hw _ (List.mem_of_getElem? (i := 4) rfl))) (by decide) (backOf (W := 0) (r56 l Z a0 hw [] h0 n0 s_NO_OP s_END_OF_CONSTRUCTOR s_ASCII_STRING s_BOOLEAN s_UNIQUE_ID s_SEQUENCE s_SET s_INTEGER s_PADDING s_PROPERTY_LIST s_DATE s_BIT_STRING t_BIT_STRING_qualifierTag s_PROPERTY s_FIELD t_FIELD_qualifierTag s_COMPRESSED s_ENCRYPTED t_ENCRYPTED_qualifierTag s_MESSAGE t_MESSAGE_qualifierTag s_EXTENSION s_VENDOR_DEFINED K) hZ (hw _ (List.mem_of_getElem? (i := 4) rfl)) (hw _ (List.mem_of_getElem? (i := 3) rfl)) (by decide) (by decide)) (g := (mkF m 9 #[.val (.int p0), .val (.int (14 : Int32)), .unset, .unset, .unset, .unset] [(.int (14 : Int32))])) rfl (by rw [hml]; rfl) (argsL := [(.int (14 : Int32))]) (rest := []) (lenOf pd0 rfl) rfl (by show 2 * 0 + _ ≤ _; exact Nat.le_of_eq rfl) (hb hby at_9) (fun _ _ => ⟨rfl, e0, (by decide : 0 + 0 ≤ _), (by decide : 0 + 0 ≤ _)⟩)
  dsimp only [Pt.U, Pt.locs, Pt.cells, Pt.slots] at X1 l1 y1 z1 st1 hQ1
  subst l1 y1 z1
  obtain ⟨rfl, N1q, e1⟩ := hQ1
  have N1 := Fr.app N0 N1q
  obtain ⟨cq2, kq2, q2a, q2b, q2c⟩ := isOf hZ e1 E_ENCRYPTED
  obtain ⟨_, _, ⟨T2, L2, k2, n2⟩, -, X2, ⟨Lc2, hQ2, l2, y2, z2⟩, st2⟩ := X1.virtualBack hx (y := (⟨"com/example/plainwire/plainwire/rfc806/Element", "qualified", "()Z"⟩ : MethodName)) (z := (⟨"com/example/plainwire/plainwire/rfc806/Element", "qualified", "()Z"⟩ : MethodName)) hown (mvT hZ (hw _ (List.mem_of_getElem? (i := 8) rfl))) (mvT hZ (hw _ (List.mem_of_getElem? (i := 9) rfl))) (notFace_of_selects (args := #[]) (mvT hZ (hw _ (List.mem_of_getElem? (i := 11) rfl)))) (mvT hZ (hw _ (List.mem_of_getElem? (i := 11) rfl))) (mvT hZ (hw _ (List.mem_of_getElem? (i := 10) rfl))) (by decide) (backOf (W := 0) (r57 l Z a0 hw [] h0 n0 s_NO_OP s_END_OF_CONSTRUCTOR s_ASCII_STRING s_BOOLEAN s_UNIQUE_ID s_SEQUENCE s_SET s_INTEGER s_PADDING s_PROPERTY_LIST s_DATE s_BIT_STRING t_BIT_STRING_qualifierTag s_PROPERTY s_FIELD t_FIELD_qualifierTag s_COMPRESSED s_ENCRYPTED t_ENCRYPTED_qualifierTag s_MESSAGE t_MESSAGE_qualifierTag s_EXTENSION s_VENDOR_DEFINED K) hZ (hw _ (List.mem_of_getElem? (i := 12) rfl)) (hw _ (List.mem_of_getElem? (i := 6) rfl)) (by decide) (by decide)) q2a q2c (g := (mkF m 26 #[.val (.int p0), .val (.int (14 : Int32)), .val (.ref s_ENCRYPTED), .val (.int (1 : Int32)), .unset, .unset] [(.ref s_ENCRYPTED)])) rfl (by rw [hml]; rfl) (Steps.refl _) (argsL := []) (rest := []) (lenOf pd1 rfl) rfl (by show 2 * 0 + _ ≤ _; exact Nat.le_of_eq rfl) (hb hby at_26) (fun _ _ => ⟨rfl, e1, (by decide : 0 + 0 ≤ _), (by decide : 0 + 0 ≤ _)⟩)
  dsimp only [Pt.U, Pt.locs, Pt.cells, Pt.slots] at X2 l2 y2 z2 st2 hQ2
  subst l2 y2 z2
  obtain ⟨rfl, N2q, e2⟩ := hQ2
  have N2 := Fr.app N1 N2q
  obtain ⟨cq3, kq3, q3a, q3b, q3c⟩ := isOf hZ e2 E_ENCRYPTED
  obtain ⟨_, _, ⟨T3, L3, k3, n3⟩, -, X3, ⟨Lc3, hQ3, l3, y3, z3⟩, st3⟩ := X2.virtualBack hx (y := (⟨"com/example/plainwire/plainwire/rfc806/Element", "qualifierTag", "()Ljava/lang/String;"⟩ : MethodName)) (z := (⟨"com/example/plainwire/plainwire/rfc806/Element", "qualifierTag", "()Ljava/lang/String;"⟩ : MethodName)) hown (mvT hZ (hw _ (List.mem_of_getElem? (i := 15) rfl))) (mvT hZ (hw _ (List.mem_of_getElem? (i := 16) rfl))) (notFace_of_selects (args := #[]) (mvT hZ (hw _ (List.mem_of_getElem? (i := 18) rfl)))) (mvT hZ (hw _ (List.mem_of_getElem? (i := 18) rfl))) (mvT hZ (hw _ (List.mem_of_getElem? (i := 17) rfl))) (by decide) (backOf (W := 0) (r58 l Z a0 hw [] h0 n0 s_NO_OP s_END_OF_CONSTRUCTOR s_ASCII_STRING s_BOOLEAN s_UNIQUE_ID s_SEQUENCE s_SET s_INTEGER s_PADDING s_PROPERTY_LIST s_DATE s_BIT_STRING t_BIT_STRING_qualifierTag s_PROPERTY s_FIELD t_FIELD_qualifierTag s_COMPRESSED s_ENCRYPTED t_ENCRYPTED_qualifierTag s_MESSAGE t_MESSAGE_qualifierTag s_EXTENSION s_VENDOR_DEFINED K) hZ (hw _ (List.mem_of_getElem? (i := 19) rfl)) (hw _ (List.mem_of_getElem? (i := 6) rfl)) (by decide) (by decide)) q3a q3c (g := (mkF m 32 #[.val (.int p0), .val (.int (14 : Int32)), .val (.ref s_ENCRYPTED), .val (.int (1 : Int32)), .val (.int (1 : Int32)), .unset] [(.ref s_ENCRYPTED)])) rfl (by rw [hml]; rfl) (Steps.refl _) (argsL := []) (rest := []) (lenOf pd2 rfl) rfl (by show 2 * 0 + _ ≤ _; exact Nat.le_of_eq rfl) (hb hby at_32) (fun _ _ => ⟨rfl, e2, (by decide : 0 + 0 ≤ _), (by decide : 0 + 0 ≤ _)⟩)
  dsimp only [Pt.U, Pt.locs, Pt.cells, Pt.slots] at X3 l3 y3 z3 st3 hQ3
  subst l3 y3 z3
  obtain ⟨rfl, N3q, e3⟩ := hQ3
  have N3 := Fr.app N2 N3q
  obtain ⟨fs, hr, hrun, hended, hW, hsame⟩ := X3.leave (v := some (.int (1 : Int32))) (fun h => by rw [Bd.returns] at h; cases h)
  refine ⟨_, _, pre0 _ ?_, hrun, hended, _, _, rfl, ?_, ⟨_, rfl⟩, hW, hsame.mono (by decide) (by decide)⟩
  · show Steps p.tables e below (s₁.setTop (mkF m 0 #[.val (.int p0), .unset, .unset, .unset, .unset, .unset] [])) _
    refine XS.iloadN X0.here hx rfl (hb hby at_0) rfl ?_
    show Steps p.tables e below (s₁.setTop (mkF m 1 #[.val (.int p0), .unset, .unset, .unset, .unset, .unset] [(.int p0)])) _
    refine X0.ldcInt hx hown (mvT hZ (hw _ (List.mem_of_getElem? (i := 0) rfl))) (g := (mkF m 1 #[.val (.int p0), .unset, .unset, .unset, .unset, .unset] [(.int p0)])) rfl (hb hby at_1) _ ?_
    show Steps p.tables e below (s₁.setTop (mkF m 3 #[.val (.int p0), .unset, .unset, .unset, .unset, .unset] [(.int (2147483647 : Int32)), (.int p0)])) _
    refine XS.iand X0.here hx rfl (hb hby at_3) rfl ?_
    show Steps p.tables e below (s₁.setTop (mkF m 4 #[.val (.int p0), .unset, .unset, .unset, .unset, .unset] [(.int (p0 &&& (2147483647 : Int32)))])) _
    refine XS.bipush X0.here hx rfl (hb hby at_4) ?_
    show Steps p.tables e below (s₁.setTop (mkF m 6 #[.val (.int p0), .unset, .unset, .unset, .unset, .unset] [(.int (19 : Int32)), (.int (p0 &&& (2147483647 : Int32)))])) _
    refine Jvm.RoadKit.iremM X0 hx rfl (hb hby at_6) rfl (by decide) ?_
    show Steps p.tables e below (s₁.setTop (mkF m 7 #[.val (.int p0), .unset, .unset, .unset, .unset, .unset] [(.int ((p0 &&& (2147483647 : Int32)) % (19 : Int32)))])) _
    rw [hp0]
    show Steps p.tables e below (s₁.setTop (mkF m 7 #[.val (.int p0), .unset, .unset, .unset, .unset, .unset] [(.int (14 : Int32))])) _
    refine XS.istoreN X0.here hx rfl (hb hby at_7) rfl (l' := #[.val (.int p0), .val (.int (14 : Int32)), .unset, .unset, .unset, .unset]) rfl ?_
    show Steps p.tables e below (s₁.setTop (mkF m 8 #[.val (.int p0), .val (.int (14 : Int32)), .unset, .unset, .unset, .unset] [])) _
    refine XS.iloadN X0.here hx rfl (hb hby at_8) rfl ?_
    show Steps p.tables e below (s₁.setTop (mkF m 9 #[.val (.int p0), .val (.int (14 : Int32)), .unset, .unset, .unset, .unset] [(.int (14 : Int32))])) _
    refine st1 _ ?_
    show Steps p.tables e below (T1.setTop (mkF m 12 #[.val (.int p0), .val (.int (14 : Int32)), .unset, .unset, .unset, .unset] [(.ref s_ENCRYPTED)])) _
    refine XS.astoreN X1.here hx rfl (hb hby at_12) rfl rfl (l' := #[.val (.int p0), .val (.int (14 : Int32)), .val (.ref s_ENCRYPTED), .unset, .unset, .unset]) rfl ?_
    show Steps p.tables e below (T1.setTop (mkF m 13 #[.val (.int p0), .val (.int (14 : Int32)), .val (.ref s_ENCRYPTED), .unset, .unset, .unset] [])) _
    refine XS.iloadN X1.here hx rfl (hb hby at_13) rfl ?_
    show Steps p.tables e below (T1.setTop (mkF m 14 #[.val (.int p0), .val (.int (14 : Int32)), .val (.ref s_ENCRYPTED), .unset, .unset, .unset] [(.int (14 : Int32))])) _
    refine XS.bipush X1.here hx rfl (hb hby at_14) ?_
    show Steps p.tables e below (T1.setTop (mkF m 16 #[.val (.int p0), .val (.int (14 : Int32)), .val (.ref s_ENCRYPTED), .unset, .unset, .unset] [(.int (11 : Int32)), (.int (14 : Int32))])) _
    refine XS.icmpNo X1.here hx rfl (hb hby at_16) rfl (by decide +kernel) ?_
    show Steps p.tables e below (T1.setTop (mkF m 19 #[.val (.int p0), .val (.int (14 : Int32)), .val (.ref s_ENCRYPTED), .unset, .unset, .unset] [])) _
    refine XS.iconst X1.here hx rfl (hb hby at_19) ?_
    show Steps p.tables e below (T1.setTop (mkF m 20 #[.val (.int p0), .val (.int (14 : Int32)), .val (.ref s_ENCRYPTED), .unset, .unset, .unset] [(.int (1 : Int32))])) _
    refine XS.goto X1.here hx rfl (pc0 := 20) (pc' := 24) rfl (hb hby at_20) (by decide) (by decide) ?_
    show Steps p.tables e below (T1.setTop (mkF m 24 #[.val (.int p0), .val (.int (14 : Int32)), .val (.ref s_ENCRYPTED), .unset, .unset, .unset] [(.int (1 : Int32))])) _
    refine XS.istoreN X1.here hx rfl (hb hby at_24) rfl (l' := #[.val (.int p0), .val (.int (14 : Int32)), .val (.ref s_ENCRYPTED), .val (.int (1 : Int32)), .unset, .unset]) rfl ?_
    show Steps p.tables e below (T1.setTop (mkF m 25 #[.val (.int p0), .val (.int (14 : Int32)), .val (.ref s_ENCRYPTED), .val (.int (1 : Int32)), .unset, .unset] [])) _
    refine XS.aloadN X1.here hx rfl (hb hby at_25) rfl rfl ?_
    show Steps p.tables e below (T1.setTop (mkF m 26 #[.val (.int p0), .val (.int (14 : Int32)), .val (.ref s_ENCRYPTED), .val (.int (1 : Int32)), .unset, .unset] [(.ref s_ENCRYPTED)])) _
    refine st2.trans ?_
    show Steps p.tables e below (T2.setTop (mkF m 29 #[.val (.int p0), .val (.int (14 : Int32)), .val (.ref s_ENCRYPTED), .val (.int (1 : Int32)), .unset, .unset] [(.int (1 : Int32))])) _
    refine XS.istore X2.here hx rfl (hb hby at_29) rfl (l' := #[.val (.int p0), .val (.int (14 : Int32)), .val (.ref s_ENCRYPTED), .val (.int (1 : Int32)), .val (.int (1 : Int32)), .unset]) rfl ?_
    show Steps p.tables e below (T2.setTop (mkF m 31 #[.val (.int p0), .val (.int (14 : Int32)), .val (.ref s_ENCRYPTED), .val (.int (1 : Int32)), .val (.int (1 : Int32)), .unset] [])) _
    refine XS.aloadN X2.here hx rfl (hb hby at_31) rfl rfl ?_
    show Steps p.tables e below (T2.setTop (mkF m 32 #[.val (.int p0), .val (.int (14 : Int32)), .val (.ref s_ENCRYPTED), .val (.int (1 : Int32)), .val (.int (1 : Int32)), .unset] [(.ref s_ENCRYPTED)])) _
    refine st3.trans ?_
    show Steps p.tables e below (T3.setTop (mkF m 35 #[.val (.int p0), .val (.int (14 : Int32)), .val (.ref s_ENCRYPTED), .val (.int (1 : Int32)), .val (.int (1 : Int32)), .unset] [(.ref t_ENCRYPTED_qualifierTag)])) _
    refine XS.ifnullNo X3.here hx rfl (hb hby at_35) rfl ?_
    show Steps p.tables e below (T3.setTop (mkF m 38 #[.val (.int p0), .val (.int (14 : Int32)), .val (.ref s_ENCRYPTED), .val (.int (1 : Int32)), .val (.int (1 : Int32)), .unset] [])) _
    refine XS.iconst X3.here hx rfl (hb hby at_38) ?_
    show Steps p.tables e below (T3.setTop (mkF m 39 #[.val (.int p0), .val (.int (14 : Int32)), .val (.ref s_ENCRYPTED), .val (.int (1 : Int32)), .val (.int (1 : Int32)), .unset] [(.int (1 : Int32))])) _
    refine XS.goto X3.here hx rfl (pc0 := 39) (pc' := 43) rfl (hb hby at_39) (by decide) (by decide) ?_
    show Steps p.tables e below (T3.setTop (mkF m 43 #[.val (.int p0), .val (.int (14 : Int32)), .val (.ref s_ENCRYPTED), .val (.int (1 : Int32)), .val (.int (1 : Int32)), .unset] [(.int (1 : Int32))])) _
    refine XS.istore X3.here hx rfl (hb hby at_43) rfl (l' := #[.val (.int p0), .val (.int (14 : Int32)), .val (.ref s_ENCRYPTED), .val (.int (1 : Int32)), .val (.int (1 : Int32)), .val (.int (1 : Int32))]) rfl ?_
    show Steps p.tables e below (T3.setTop (mkF m 45 #[.val (.int p0), .val (.int (14 : Int32)), .val (.ref s_ENCRYPTED), .val (.int (1 : Int32)), .val (.int (1 : Int32)), .val (.int (1 : Int32))] [])) _
    refine XS.iload X3.here hx rfl (hb hby at_45) rfl ?_
    show Steps p.tables e below (T3.setTop (mkF m 47 #[.val (.int p0), .val (.int (14 : Int32)), .val (.ref s_ENCRYPTED), .val (.int (1 : Int32)), .val (.int (1 : Int32)), .val (.int (1 : Int32))] [(.int (1 : Int32))])) _
    refine XS.iloadN X3.here hx rfl (hb hby at_47) rfl ?_
    show Steps p.tables e below (T3.setTop (mkF m 48 #[.val (.int p0), .val (.int (14 : Int32)), .val (.ref s_ENCRYPTED), .val (.int (1 : Int32)), .val (.int (1 : Int32)), .val (.int (1 : Int32))] [(.int (1 : Int32)), (.int (1 : Int32))])) _
    refine XS.icmpNo X3.here hx rfl (hb hby at_48) rfl (by decide +kernel) ?_
    show Steps p.tables e below (T3.setTop (mkF m 51 #[.val (.int p0), .val (.int (14 : Int32)), .val (.ref s_ENCRYPTED), .val (.int (1 : Int32)), .val (.int (1 : Int32)), .val (.int (1 : Int32))] [])) _
    refine XS.iload X3.here hx rfl (hb hby at_51) rfl ?_
    show Steps p.tables e below (T3.setTop (mkF m 53 #[.val (.int p0), .val (.int (14 : Int32)), .val (.ref s_ENCRYPTED), .val (.int (1 : Int32)), .val (.int (1 : Int32)), .val (.int (1 : Int32))] [(.int (1 : Int32))])) _
    refine XS.iload X3.here hx rfl (hb hby at_53) rfl ?_
    show Steps p.tables e below (T3.setTop (mkF m 55 #[.val (.int p0), .val (.int (14 : Int32)), .val (.ref s_ENCRYPTED), .val (.int (1 : Int32)), .val (.int (1 : Int32)), .val (.int (1 : Int32))] [(.int (1 : Int32)), (.int (1 : Int32))])) _
    refine XS.icmpNo X3.here hx rfl (hb hby at_55) rfl (by decide +kernel) ?_
    show Steps p.tables e below (T3.setTop (mkF m 58 #[.val (.int p0), .val (.int (14 : Int32)), .val (.ref s_ENCRYPTED), .val (.int (1 : Int32)), .val (.int (1 : Int32)), .val (.int (1 : Int32))] [])) _
    refine XS.iconst X3.here hx rfl (hb hby at_58) ?_
    show Steps p.tables e below (T3.setTop (mkF m 59 #[.val (.int p0), .val (.int (14 : Int32)), .val (.ref s_ENCRYPTED), .val (.int (1 : Int32)), .val (.int (1 : Int32)), .val (.int (1 : Int32))] [(.int (1 : Int32))])) _
    refine XS.goto X3.here hx rfl (pc0 := 59) (pc' := 63) rfl (hb hby at_59) (by decide) (by decide) ?_
    show Steps p.tables e below (T3.setTop (mkF m 63 #[.val (.int p0), .val (.int (14 : Int32)), .val (.ref s_ENCRYPTED), .val (.int (1 : Int32)), .val (.int (1 : Int32)), .val (.int (1 : Int32))] [(.int (1 : Int32))])) _
    exact retN X3 hx (t := .boolean) Bd.returns (by simp) (hb hby at_63) hr
  · exact ⟨rfl, N3, e3⟩
set_option maxRecDepth 65536 in
set_option maxHeartbeats 40000000 in
theorem r60 (l : Launch) (Z : State) (a0 : Array Value) (hw : ∀ d ∈ tables_1, d.before a0 Z = true) (ws : List Jvm.Cond) (h0 : Heap) (n0 : Nat) (s_NO_OP : Addr) (s_END_OF_CONSTRUCTOR : Addr) (s_ASCII_STRING : Addr) (s_BOOLEAN : Addr) (s_UNIQUE_ID : Addr) (s_SEQUENCE : Addr) (s_SET : Addr) (s_INTEGER : Addr) (s_PADDING : Addr) (s_PROPERTY_LIST : Addr) (s_DATE : Addr) (s_BIT_STRING : Addr) (t_BIT_STRING_qualifierTag : Addr) (s_PROPERTY : Addr) (s_FIELD : Addr) (t_FIELD_qualifierTag : Addr) (s_COMPRESSED : Addr) (s_ENCRYPTED : Addr) (t_ENCRYPTED_qualifierTag : Addr) (s_MESSAGE : Addr) (t_MESSAGE_qualifierTag : Addr) (s_EXTENSION : Addr) (s_VENDOR_DEFINED : Addr) (K : Ctx Z h0 s_NO_OP s_END_OF_CONSTRUCTOR s_ASCII_STRING s_BOOLEAN s_UNIQUE_ID s_SEQUENCE s_SET s_INTEGER s_PADDING s_PROPERTY_LIST s_DATE s_BIT_STRING t_BIT_STRING_qualifierTag s_PROPERTY s_FIELD t_FIELD_qualifierTag s_COMPRESSED s_ENCRYPTED t_ENCRYPTED_qualifierTag s_MESSAGE t_MESSAGE_qualifierTag s_EXTENSION s_VENDOR_DEFINED) :
    MetFree l (⟨"com/example/plainwire/plainwire/rfc806/ElementQualifiedPinLaw", "pick", "(I)Lcom/example/plainwire/plainwire/rfc806/Element;"⟩ : MethodName) (head1 (Jvm.Cond.code (⟨"com/example/plainwire/plainwire/rfc806/ElementQualifiedPinLaw", "pick", "(I)Lcom/example/plainwire/plainwire/rfc806/Element;"⟩ : MethodName) method_2_code 1 (some (.object "com/example/plainwire/plainwire/rfc806/Element")) :: ws) ({ frames := 0, cells := 0, slots := 0, locals := 0 } : Room)) (fun a U => a = #[(.int (15 : Int32))] ∧ Z.Warmed39 U.vm ∧ U.heap = h0) (fun _ _ _ _ _ => True) (fun _ U o U' => ∃ v L, o = .returned v ∧ QV (.ref s_FIELD) h0 n0 v U'.heap L ∧ FrameEnd U o U' L ({ frames := 0, cells := 0, slots := 0, locals := 0 } : Room).cells ({ frames := 0, cells := 0, slots := 0, locals := 0 } : Room).slots) := by
  obtain ⟨S_NO_OP, F_NO_OP_code, E_NO_OP, F_NO_OP_qualifierTag, S_END_OF_CONSTRUCTOR, F_END_OF_CONSTRUCTOR_code, E_END_OF_CONSTRUCTOR, F_END_OF_CONSTRUCTOR_qualifierTag, S_ASCII_STRING, F_ASCII_STRING_code, E_ASCII_STRING, F_ASCII_STRING_qualifierTag, S_BOOLEAN, F_BOOLEAN_code, E_BOOLEAN, F_BOOLEAN_qualifierTag, S_UNIQUE_ID, F_UNIQUE_ID_code, E_UNIQUE_ID, F_UNIQUE_ID_qualifierTag, S_SEQUENCE, F_SEQUENCE_code, E_SEQUENCE, F_SEQUENCE_qualifierTag, S_SET, F_SET_code, E_SET, F_SET_qualifierTag, S_INTEGER, F_INTEGER_code, E_INTEGER, F_INTEGER_qualifierTag, S_PADDING, F_PADDING_code, E_PADDING, F_PADDING_qualifierTag, S_PROPERTY_LIST, F_PROPERTY_LIST_code, E_PROPERTY_LIST, F_PROPERTY_LIST_qualifierTag, S_DATE, F_DATE_code, E_DATE, F_DATE_qualifierTag, S_BIT_STRING, F_BIT_STRING_code, E_BIT_STRING, F_BIT_STRING_qualifierTag, S_PROPERTY, F_PROPERTY_code, E_PROPERTY, F_PROPERTY_qualifierTag, S_COMPRESSED, F_COMPRESSED_code, E_COMPRESSED, F_COMPRESSED_qualifierTag, S_ENCRYPTED, F_ENCRYPTED_code, E_ENCRYPTED, F_ENCRYPTED_qualifierTag, S_FIELD, F_FIELD_code, E_FIELD, F_FIELD_qualifierTag, S_MESSAGE, F_MESSAGE_code, E_MESSAGE, F_MESSAGE_qualifierTag, S_EXTENSION, F_EXTENSION_code, E_EXTENSION, F_EXTENSION_qualifierTag, S_VENDOR_DEFINED, F_VENDOR_DEFINED_code, E_VENDOR_DEFINED, F_VENDOR_DEFINED_qualifierTag⟩ := id K
  refine MetFree.of_bodySF (plainFor_of_name pn0) hisR ?_
  intro p e s m args below meth c s₁ Bd hml0 hP hK
  obtain ⟨rfl, hZ, hh⟩ := hP
  have hx := Bd.exec
  have hby := Bd.bytes
  have hml : c.maxLocals = 1 := hml0
  have hown : s.vm.findClass "com/example/plainwire/plainwire/rfc806/ElementQualifiedPinLaw" = some m.cls := findClass_of_methodNamed Bd.named
  have X0 : Stand p l e ({ frames := 0, cells := 0, slots := 0, locals := 0 } : Room) s m #[(.int (15 : Int32))] below meth c s₁ [] 0 0 := Stand.of_body Bd
  have e0 : s₁.heap = h0 := by rw [← hh, Bd.state]; rfl
  have N0 := Fr.nil n0
  have pre0 : ∀ t, Steps p.tables e below (s₁.setTop (mkF m 0 #[.val (.int (15 : Int32))] [])) t → Steps p.tables e below (s₁.setTop (entryFrame m #[(.int (15 : Int32))] 1)) t := fun t k => castTop (by first | (simp [entryFrame, mkF, argsToLocals, Value.category]; done) | rfl) k
  obtain ⟨T1, X1, e1, st1⟩ := getS X0 hx hZ hown (host := "") (hw _ (List.mem_of_getElem? (i := 24) rfl)) Via.refl e0 S_FIELD (g := (mkF m 149 #[.val (.int (15 : Int32))] [])) rfl (hb hby d0_149)
  obtain ⟨fs, hr, hrun, hended, hW, hsame⟩ := X1.leave (v := some (.ref s_FIELD)) (fun h => by rw [Bd.returns] at h; cases h)
  refine ⟨_, _, pre0 _ ?_, hrun, hended, _, _, rfl, ?_, ⟨_, rfl⟩, hW, hsame.mono (by decide) (by decide)⟩
  · show Steps p.tables e below (s₁.setTop (mkF m 0 #[.val (.int (15 : Int32))] [])) _
    refine XS.iloadN X0.here hx rfl (hb hby d0_0) rfl ?_
    show Steps p.tables e below (s₁.setTop (mkF m 1 #[.val (.int (15 : Int32))] [(.int (15 : Int32))])) _
    refine XS.ifYes X0.here hx rfl (pc0 := 1) (pc' := 8) rfl (hb hby d0_1) rfl (by decide +kernel) (by decide) (by decide) ?_
    show Steps p.tables e below (s₁.setTop (mkF m 8 #[.val (.int (15 : Int32))] [])) _
    refine XS.iloadN X0.here hx rfl (hb hby d0_8) rfl ?_
    show Steps p.tables e below (s₁.setTop (mkF m 9 #[.val (.int (15 : Int32))] [(.int (15 : Int32))])) _
    refine XS.iconst X0.here hx rfl (hb hby d0_9) ?_
    show Steps p.tables e below (s₁.setTop (mkF m 10 #[.val (.int (15 : Int32))] [(.int (1 : Int32)), (.int (15 : Int32))])) _
    refine XS.icmpYes X0.here hx rfl (pc0 := 10) (pc' := 17) rfl (hb hby d0_10) rfl (by decide +kernel) (by decide) (by decide) ?_
    show Steps p.tables e below (s₁.setTop (mkF m 17 #[.val (.int (15 : Int32))] [])) _
    refine XS.iloadN X0.here hx rfl (hb hby d0_17) rfl ?_
    show Steps p.tables e below (s₁.setTop (mkF m 18 #[.val (.int (15 : Int32))] [(.int (15 : Int32))])) _
    refine XS.iconst X0.here hx rfl (hb hby d0_18) ?_
    show Steps p.tables e below (s₁.setTop (mkF m 19 #[.val (.int (15 : Int32))] [(.int (2 : Int32)), (.int (15 : Int32))])) _
    refine XS.icmpYes X0.here hx rfl (pc0 := 19) (pc' := 26) rfl (hb hby d0_19) rfl (by decide +kernel) (by decide) (by decide) ?_
    show Steps p.tables e below (s₁.setTop (mkF m 26 #[.val (.int (15 : Int32))] [])) _
    refine XS.iloadN X0.here hx rfl (hb hby d0_26) rfl ?_
    show Steps p.tables e below (s₁.setTop (mkF m 27 #[.val (.int (15 : Int32))] [(.int (15 : Int32))])) _
    refine XS.iconst X0.here hx rfl (hb hby d0_27) ?_
    show Steps p.tables e below (s₁.setTop (mkF m 28 #[.val (.int (15 : Int32))] [(.int (3 : Int32)), (.int (15 : Int32))])) _
    refine XS.icmpYes X0.here hx rfl (pc0 := 28) (pc' := 35) rfl (hb hby d0_28) rfl (by decide +kernel) (by decide) (by decide) ?_
    show Steps p.tables e below (s₁.setTop (mkF m 35 #[.val (.int (15 : Int32))] [])) _
    refine XS.iloadN X0.here hx rfl (hb hby d0_35) rfl ?_
    show Steps p.tables e below (s₁.setTop (mkF m 36 #[.val (.int (15 : Int32))] [(.int (15 : Int32))])) _
    refine XS.iconst X0.here hx rfl (hb hby d0_36) ?_
    show Steps p.tables e below (s₁.setTop (mkF m 37 #[.val (.int (15 : Int32))] [(.int (4 : Int32)), (.int (15 : Int32))])) _
    refine XS.icmpYes X0.here hx rfl (pc0 := 37) (pc' := 44) rfl (hb hby d0_37) rfl (by decide +kernel) (by decide) (by decide) ?_
    show Steps p.tables e below (s₁.setTop (mkF m 44 #[.val (.int (15 : Int32))] [])) _
    refine XS.iloadN X0.here hx rfl (hb hby d0_44) rfl ?_
    show Steps p.tables e below (s₁.setTop (mkF m 45 #[.val (.int (15 : Int32))] [(.int (15 : Int32))])) _
    refine XS.iconst X0.here hx rfl (hb hby d0_45) ?_
    show Steps p.tables e below (s₁.setTop (mkF m 46 #[.val (.int (15 : Int32))] [(.int (5 : Int32)), (.int (15 : Int32))])) _
    refine XS.icmpYes X0.here hx rfl (pc0 := 46) (pc' := 53) rfl (hb hby d0_46) rfl (by decide +kernel) (by decide) (by decide) ?_
    show Steps p.tables e below (s₁.setTop (mkF m 53 #[.val (.int (15 : Int32))] [])) _
    refine XS.iloadN X0.here hx rfl (hb hby d0_53) rfl ?_
    show Steps p.tables e below (s₁.setTop (mkF m 54 #[.val (.int (15 : Int32))] [(.int (15 : Int32))])) _
    refine XS.bipush X0.here hx rfl (hb hby d0_54) ?_
    show Steps p.tables e below (s₁.setTop (mkF m 56 #[.val (.int (15 : Int32))] [(.int (6 : Int32)), (.int (15 : Int32))])) _
    refine XS.icmpYes X0.here hx rfl (pc0 := 56) (pc' := 63) rfl (hb hby d0_56) rfl (by decide +kernel) (by decide) (by decide) ?_
    show Steps p.tables e below (s₁.setTop (mkF m 63 #[.val (.int (15 : Int32))] [])) _
    refine XS.iloadN X0.here hx rfl (hb hby d0_63) rfl ?_
    show Steps p.tables e below (s₁.setTop (mkF m 64 #[.val (.int (15 : Int32))] [(.int (15 : Int32))])) _
    refine XS.bipush X0.here hx rfl (hb hby d0_64) ?_
    show Steps p.tables e below (s₁.setTop (mkF m 66 #[.val (.int (15 : Int32))] [(.int (7 : Int32)), (.int (15 : Int32))])) _
    refine XS.icmpYes X0.here hx rfl (pc0 := 66) (pc' := 73) rfl (hb hby d0_66) rfl (by decide +kernel) (by decide) (by decide) ?_
    show Steps p.tables e below (s₁.setTop (mkF m 73 #[.val (.int (15 : Int32))] [])) _
    refine XS.iloadN X0.here hx rfl (hb hby d0_73) rfl ?_
    show Steps p.tables e below (s₁.setTop (mkF m 74 #[.val (.int (15 : Int32))] [(.int (15 : Int32))])) _
    refine XS.bipush X0.here hx rfl (hb hby d0_74) ?_
    show Steps p.tables e below (s₁.setTop (mkF m 76 #[.val (.int (15 : Int32))] [(.int (8 : Int32)), (.int (15 : Int32))])) _
    refine XS.icmpYes X0.here hx rfl (pc0 := 76) (pc' := 83) rfl (hb hby d0_76) rfl (by decide +kernel) (by decide) (by decide) ?_
    show Steps p.tables e below (s₁.setTop (mkF m 83 #[.val (.int (15 : Int32))] [])) _
    refine XS.iloadN X0.here hx rfl (hb hby d0_83) rfl ?_
    show Steps p.tables e below (s₁.setTop (mkF m 84 #[.val (.int (15 : Int32))] [(.int (15 : Int32))])) _
    refine XS.bipush X0.here hx rfl (hb hby d0_84) ?_
    show Steps p.tables e below (s₁.setTop (mkF m 86 #[.val (.int (15 : Int32))] [(.int (9 : Int32)), (.int (15 : Int32))])) _
    refine XS.icmpYes X0.here hx rfl (pc0 := 86) (pc' := 93) rfl (hb hby d0_86) rfl (by decide +kernel) (by decide) (by decide) ?_
    show Steps p.tables e below (s₁.setTop (mkF m 93 #[.val (.int (15 : Int32))] [])) _
    refine XS.iloadN X0.here hx rfl (hb hby d0_93) rfl ?_
    show Steps p.tables e below (s₁.setTop (mkF m 94 #[.val (.int (15 : Int32))] [(.int (15 : Int32))])) _
    refine XS.bipush X0.here hx rfl (hb hby d0_94) ?_
    show Steps p.tables e below (s₁.setTop (mkF m 96 #[.val (.int (15 : Int32))] [(.int (10 : Int32)), (.int (15 : Int32))])) _
    refine XS.icmpYes X0.here hx rfl (pc0 := 96) (pc' := 103) rfl (hb hby d0_96) rfl (by decide +kernel) (by decide) (by decide) ?_
    show Steps p.tables e below (s₁.setTop (mkF m 103 #[.val (.int (15 : Int32))] [])) _
    refine XS.iloadN X0.here hx rfl (hb hby d0_103) rfl ?_
    show Steps p.tables e below (s₁.setTop (mkF m 104 #[.val (.int (15 : Int32))] [(.int (15 : Int32))])) _
    refine XS.bipush X0.here hx rfl (hb hby d0_104) ?_
    show Steps p.tables e below (s₁.setTop (mkF m 106 #[.val (.int (15 : Int32))] [(.int (11 : Int32)), (.int (15 : Int32))])) _
    refine XS.icmpYes X0.here hx rfl (pc0 := 106) (pc' := 113) rfl (hb hby d0_106) rfl (by decide +kernel) (by decide) (by decide) ?_
    show Steps p.tables e below (s₁.setTop (mkF m 113 #[.val (.int (15 : Int32))] [])) _
    refine XS.iloadN X0.here hx rfl (hb hby d0_113) rfl ?_
    show Steps p.tables e below (s₁.setTop (mkF m 114 #[.val (.int (15 : Int32))] [(.int (15 : Int32))])) _
    refine XS.bipush X0.here hx rfl (hb hby d0_114) ?_
    show Steps p.tables e below (s₁.setTop (mkF m 116 #[.val (.int (15 : Int32))] [(.int (12 : Int32)), (.int (15 : Int32))])) _
    refine XS.icmpYes X0.here hx rfl (pc0 := 116) (pc' := 123) rfl (hb hby d0_116) rfl (by decide +kernel) (by decide) (by decide) ?_
    show Steps p.tables e below (s₁.setTop (mkF m 123 #[.val (.int (15 : Int32))] [])) _
    refine XS.iloadN X0.here hx rfl (hb hby d0_123) rfl ?_
    show Steps p.tables e below (s₁.setTop (mkF m 124 #[.val (.int (15 : Int32))] [(.int (15 : Int32))])) _
    refine XS.bipush X0.here hx rfl (hb hby d0_124) ?_
    show Steps p.tables e below (s₁.setTop (mkF m 126 #[.val (.int (15 : Int32))] [(.int (13 : Int32)), (.int (15 : Int32))])) _
    refine XS.icmpYes X0.here hx rfl (pc0 := 126) (pc' := 133) rfl (hb hby d0_126) rfl (by decide +kernel) (by decide) (by decide) ?_
    show Steps p.tables e below (s₁.setTop (mkF m 133 #[.val (.int (15 : Int32))] [])) _
    refine XS.iloadN X0.here hx rfl (hb hby d0_133) rfl ?_
    show Steps p.tables e below (s₁.setTop (mkF m 134 #[.val (.int (15 : Int32))] [(.int (15 : Int32))])) _
    refine XS.bipush X0.here hx rfl (hb hby d0_134) ?_
    show Steps p.tables e below (s₁.setTop (mkF m 136 #[.val (.int (15 : Int32))] [(.int (14 : Int32)), (.int (15 : Int32))])) _
    refine XS.icmpYes X0.here hx rfl (pc0 := 136) (pc' := 143) rfl (hb hby d0_136) rfl (by decide +kernel) (by decide) (by decide) ?_
    show Steps p.tables e below (s₁.setTop (mkF m 143 #[.val (.int (15 : Int32))] [])) _
    refine XS.iloadN X0.here hx rfl (hb hby d0_143) rfl ?_
    show Steps p.tables e below (s₁.setTop (mkF m 144 #[.val (.int (15 : Int32))] [(.int (15 : Int32))])) _
    refine XS.bipush X0.here hx rfl (hb hby d0_144) ?_
    show Steps p.tables e below (s₁.setTop (mkF m 146 #[.val (.int (15 : Int32))] [(.int (15 : Int32)), (.int (15 : Int32))])) _
    refine XS.icmpNo X0.here hx rfl (hb hby d0_146) rfl (by decide +kernel) ?_
    show Steps p.tables e below (s₁.setTop (mkF m 149 #[.val (.int (15 : Int32))] [])) _
    refine st1 _ ?_
    show Steps p.tables e below (T1.setTop (mkF m 152 #[.val (.int (15 : Int32))] [(.ref s_FIELD)])) _
    exact retOut X1 hx (i := .areturn) Bd.returns rfl (Or.inr (Or.inr (Or.inr (Or.inr ⟨rfl, rfl, rfl⟩)))) (hb hby d0_152) hr
  · exact ⟨rfl, N0, e1⟩
set_option maxRecDepth 65536 in
set_option maxHeartbeats 40000000 in
theorem r61 (l : Launch) (Z : State) (a0 : Array Value) (hw : ∀ d ∈ tables_1, d.before a0 Z = true) (ws : List Jvm.Cond) (h0 : Heap) (n0 : Nat) (s_NO_OP : Addr) (s_END_OF_CONSTRUCTOR : Addr) (s_ASCII_STRING : Addr) (s_BOOLEAN : Addr) (s_UNIQUE_ID : Addr) (s_SEQUENCE : Addr) (s_SET : Addr) (s_INTEGER : Addr) (s_PADDING : Addr) (s_PROPERTY_LIST : Addr) (s_DATE : Addr) (s_BIT_STRING : Addr) (t_BIT_STRING_qualifierTag : Addr) (s_PROPERTY : Addr) (s_FIELD : Addr) (t_FIELD_qualifierTag : Addr) (s_COMPRESSED : Addr) (s_ENCRYPTED : Addr) (t_ENCRYPTED_qualifierTag : Addr) (s_MESSAGE : Addr) (t_MESSAGE_qualifierTag : Addr) (s_EXTENSION : Addr) (s_VENDOR_DEFINED : Addr) (K : Ctx Z h0 s_NO_OP s_END_OF_CONSTRUCTOR s_ASCII_STRING s_BOOLEAN s_UNIQUE_ID s_SEQUENCE s_SET s_INTEGER s_PADDING s_PROPERTY_LIST s_DATE s_BIT_STRING t_BIT_STRING_qualifierTag s_PROPERTY s_FIELD t_FIELD_qualifierTag s_COMPRESSED s_ENCRYPTED t_ENCRYPTED_qualifierTag s_MESSAGE t_MESSAGE_qualifierTag s_EXTENSION s_VENDOR_DEFINED) :
    MetFree l (⟨"com/example/plainwire/plainwire/rfc806/Element", "qualified", "()Z"⟩ : MethodName) (head1 (Jvm.Cond.code (⟨"com/example/plainwire/plainwire/rfc806/Element", "qualified", "()Z"⟩ : MethodName) prog_101_method_9_code 1 (some .boolean) :: ws) ({ frames := 0, cells := 0, slots := 0, locals := 0 } : Room)) (fun a U => a = #[(.ref s_FIELD)] ∧ Z.Warmed39 U.vm ∧ U.heap = h0) (fun _ _ _ _ _ => True) (fun _ U o U' => ∃ v L, o = .returned v ∧ QV (.int (1 : Int32)) h0 n0 v U'.heap L ∧ FrameEnd U o U' L ({ frames := 0, cells := 0, slots := 0, locals := 0 } : Room).cells ({ frames := 0, cells := 0, slots := 0, locals := 0 } : Room).slots) := by
  obtain ⟨S_NO_OP, F_NO_OP_code, E_NO_OP, F_NO_OP_qualifierTag, S_END_OF_CONSTRUCTOR, F_END_OF_CONSTRUCTOR_code, E_END_OF_CONSTRUCTOR, F_END_OF_CONSTRUCTOR_qualifierTag, S_ASCII_STRING, F_ASCII_STRING_code, E_ASCII_STRING, F_ASCII_STRING_qualifierTag, S_BOOLEAN, F_BOOLEAN_code, E_BOOLEAN, F_BOOLEAN_qualifierTag, S_UNIQUE_ID, F_UNIQUE_ID_code, E_UNIQUE_ID, F_UNIQUE_ID_qualifierTag, S_SEQUENCE, F_SEQUENCE_code, E_SEQUENCE, F_SEQUENCE_qualifierTag, S_SET, F_SET_code, E_SET, F_SET_qualifierTag, S_INTEGER, F_INTEGER_code, E_INTEGER, F_INTEGER_qualifierTag, S_PADDING, F_PADDING_code, E_PADDING, F_PADDING_qualifierTag, S_PROPERTY_LIST, F_PROPERTY_LIST_code, E_PROPERTY_LIST, F_PROPERTY_LIST_qualifierTag, S_DATE, F_DATE_code, E_DATE, F_DATE_qualifierTag, S_BIT_STRING, F_BIT_STRING_code, E_BIT_STRING, F_BIT_STRING_qualifierTag, S_PROPERTY, F_PROPERTY_code, E_PROPERTY, F_PROPERTY_qualifierTag, S_COMPRESSED, F_COMPRESSED_code, E_COMPRESSED, F_COMPRESSED_qualifierTag, S_ENCRYPTED, F_ENCRYPTED_code, E_ENCRYPTED, F_ENCRYPTED_qualifierTag, S_FIELD, F_FIELD_code, E_FIELD, F_FIELD_qualifierTag, S_MESSAGE, F_MESSAGE_code, E_MESSAGE, F_MESSAGE_qualifierTag, S_EXTENSION, F_EXTENSION_code, E_EXTENSION, F_EXTENSION_qualifierTag, S_VENDOR_DEFINED, F_VENDOR_DEFINED_code, E_VENDOR_DEFINED, F_VENDOR_DEFINED_qualifierTag⟩ := id K
  refine MetFree.of_bodySF (plainFor_of_name pn1) hisR ?_
  intro p e s m args below meth c s₁ Bd hml0 hP hK
  obtain ⟨rfl, hZ, hh⟩ := hP
  have hx := Bd.exec
  have hby := Bd.bytes
  have hml : c.maxLocals = 1 := hml0
  have hown : s.vm.findClass "com/example/plainwire/plainwire/rfc806/Element" = some m.cls := findClass_of_methodNamed Bd.named
  have X0 : Stand p l e ({ frames := 0, cells := 0, slots := 0, locals := 0 } : Room) s m #[(.ref s_FIELD)] below meth c s₁ [] 0 0 := Stand.of_body Bd
  have e0 : s₁.heap = h0 := by rw [← hh, Bd.state]; rfl
  have N0 := Fr.nil n0
  have pre0 : ∀ t, Steps p.tables e below (s₁.setTop (mkF m 0 #[.val (.ref s_FIELD)] [])) t → Steps p.tables e below (s₁.setTop (entryFrame m #[(.ref s_FIELD)] 1)) t := fun t k => castTop (by first | (simp [entryFrame, mkF, argsToLocals, Value.category]; done) | rfl) k
  obtain ⟨T1, X1, e1, st1⟩ := getF X0 hx hZ hown (host := "") (Or.inl (hw _ (List.mem_of_getElem? (i := 13) rfl))) Via.refl e0 F_FIELD_code (g := (mkF m 1 #[.val (.ref s_FIELD)] [(.ref s_FIELD)])) rfl rfl (hb hby d1_1)
  obtain ⟨fs, hr, hrun, hended, hW, hsame⟩ := X1.leave (v := some (.int (1 : Int32))) (fun h => by rw [Bd.returns] at h; cases h)
  refine ⟨_, _, pre0 _ ?_, hrun, hended, _, _, rfl, ?_, ⟨_, rfl⟩, hW, hsame.mono (by decide) (by decide)⟩
  · show Steps p.tables e below (s₁.setTop (mkF m 0 #[.val (.ref s_FIELD)] [])) _
    refine XS.aloadN X0.here hx rfl (hb hby d1_0) rfl rfl ?_
    show Steps p.tables e below (s₁.setTop (mkF m 1 #[.val (.ref s_FIELD)] [(.ref s_FIELD)])) _
    refine st1 _ ?_
    show Steps p.tables e below (T1.setTop (mkF m 4 #[.val (.ref s_FIELD)] [(.int (76 : Int32))])) _
    refine XS.bipush X1.here hx rfl (hb hby d1_4) ?_
    show Steps p.tables e below (T1.setTop (mkF m 6 #[.val (.ref s_FIELD)] [(.int (64 : Int32)), (.int (76 : Int32))])) _
    refine XS.iand X1.here hx rfl (hb hby d1_6) rfl ?_
    show Steps p.tables e below (T1.setTop (mkF m 7 #[.val (.ref s_FIELD)] [(.int ((76 : Int32) &&& (64 : Int32)))])) _
    rw [show ((76 : Int32) &&& (64 : Int32)) = (64 : Int32) from by decide +kernel]
    show Steps p.tables e below (T1.setTop (mkF m 7 #[.val (.ref s_FIELD)] [(.int (64 : Int32))])) _
    refine XS.ifNo X1.here hx rfl (hb hby d1_7) rfl (by decide +kernel) ?_
    show Steps p.tables e below (T1.setTop (mkF m 10 #[.val (.ref s_FIELD)] [])) _
    refine XS.iconst X1.here hx rfl (hb hby d1_10) ?_
    show Steps p.tables e below (T1.setTop (mkF m 11 #[.val (.ref s_FIELD)] [(.int (1 : Int32))])) _
    refine XS.goto X1.here hx rfl (pc0 := 11) (pc' := 15) rfl (hb hby d1_11) (by decide) (by decide) ?_
    show Steps p.tables e below (T1.setTop (mkF m 15 #[.val (.ref s_FIELD)] [(.int (1 : Int32))])) _
    exact retN X1 hx (t := .boolean) Bd.returns (by simp) (hb hby d1_15) hr
  · exact ⟨rfl, N0, e1⟩
set_option maxRecDepth 65536 in
set_option maxHeartbeats 40000000 in
theorem r62 (l : Launch) (Z : State) (a0 : Array Value) (hw : ∀ d ∈ tables_1, d.before a0 Z = true) (ws : List Jvm.Cond) (h0 : Heap) (n0 : Nat) (s_NO_OP : Addr) (s_END_OF_CONSTRUCTOR : Addr) (s_ASCII_STRING : Addr) (s_BOOLEAN : Addr) (s_UNIQUE_ID : Addr) (s_SEQUENCE : Addr) (s_SET : Addr) (s_INTEGER : Addr) (s_PADDING : Addr) (s_PROPERTY_LIST : Addr) (s_DATE : Addr) (s_BIT_STRING : Addr) (t_BIT_STRING_qualifierTag : Addr) (s_PROPERTY : Addr) (s_FIELD : Addr) (t_FIELD_qualifierTag : Addr) (s_COMPRESSED : Addr) (s_ENCRYPTED : Addr) (t_ENCRYPTED_qualifierTag : Addr) (s_MESSAGE : Addr) (t_MESSAGE_qualifierTag : Addr) (s_EXTENSION : Addr) (s_VENDOR_DEFINED : Addr) (K : Ctx Z h0 s_NO_OP s_END_OF_CONSTRUCTOR s_ASCII_STRING s_BOOLEAN s_UNIQUE_ID s_SEQUENCE s_SET s_INTEGER s_PADDING s_PROPERTY_LIST s_DATE s_BIT_STRING t_BIT_STRING_qualifierTag s_PROPERTY s_FIELD t_FIELD_qualifierTag s_COMPRESSED s_ENCRYPTED t_ENCRYPTED_qualifierTag s_MESSAGE t_MESSAGE_qualifierTag s_EXTENSION s_VENDOR_DEFINED) :
    MetFree l (⟨"com/example/plainwire/plainwire/rfc806/Element", "qualifierTag", "()Ljava/lang/String;"⟩ : MethodName) (head1 (Jvm.Cond.code (⟨"com/example/plainwire/plainwire/rfc806/Element", "qualifierTag", "()Ljava/lang/String;"⟩ : MethodName) prog_101_method_10_code 1 (some (.object "java/lang/String")) :: ws) ({ frames := 0, cells := 0, slots := 0, locals := 0 } : Room)) (fun a U => a = #[(.ref s_FIELD)] ∧ Z.Warmed39 U.vm ∧ U.heap = h0) (fun _ _ _ _ _ => True) (fun _ U o U' => ∃ v L, o = .returned v ∧ QV (.ref t_FIELD_qualifierTag) h0 n0 v U'.heap L ∧ FrameEnd U o U' L ({ frames := 0, cells := 0, slots := 0, locals := 0 } : Room).cells ({ frames := 0, cells := 0, slots := 0, locals := 0 } : Room).slots) := by
  obtain ⟨S_NO_OP, F_NO_OP_code, E_NO_OP, F_NO_OP_qualifierTag, S_END_OF_CONSTRUCTOR, F_END_OF_CONSTRUCTOR_code, E_END_OF_CONSTRUCTOR, F_END_OF_CONSTRUCTOR_qualifierTag, S_ASCII_STRING, F_ASCII_STRING_code, E_ASCII_STRING, F_ASCII_STRING_qualifierTag, S_BOOLEAN, F_BOOLEAN_code, E_BOOLEAN, F_BOOLEAN_qualifierTag, S_UNIQUE_ID, F_UNIQUE_ID_code, E_UNIQUE_ID, F_UNIQUE_ID_qualifierTag, S_SEQUENCE, F_SEQUENCE_code, E_SEQUENCE, F_SEQUENCE_qualifierTag, S_SET, F_SET_code, E_SET, F_SET_qualifierTag, S_INTEGER, F_INTEGER_code, E_INTEGER, F_INTEGER_qualifierTag, S_PADDING, F_PADDING_code, E_PADDING, F_PADDING_qualifierTag, S_PROPERTY_LIST, F_PROPERTY_LIST_code, E_PROPERTY_LIST, F_PROPERTY_LIST_qualifierTag, S_DATE, F_DATE_code, E_DATE, F_DATE_qualifierTag, S_BIT_STRING, F_BIT_STRING_code, E_BIT_STRING, F_BIT_STRING_qualifierTag, S_PROPERTY, F_PROPERTY_code, E_PROPERTY, F_PROPERTY_qualifierTag, S_COMPRESSED, F_COMPRESSED_code, E_COMPRESSED, F_COMPRESSED_qualifierTag, S_ENCRYPTED, F_ENCRYPTED_code, E_ENCRYPTED, F_ENCRYPTED_qualifierTag, S_FIELD, F_FIELD_code, E_FIELD, F_FIELD_qualifierTag, S_MESSAGE, F_MESSAGE_code, E_MESSAGE, F_MESSAGE_qualifierTag, S_EXTENSION, F_EXTENSION_code, E_EXTENSION, F_EXTENSION_qualifierTag, S_VENDOR_DEFINED, F_VENDOR_DEFINED_code, E_VENDOR_DEFINED, F_VENDOR_DEFINED_qualifierTag⟩ := id K
  refine MetFree.of_bodySF (plainFor_of_name pn2) hisR ?_
  intro p e s m args below meth c s₁ Bd hml0 hP hK
  obtain ⟨rfl, hZ, hh⟩ := hP
  have hx := Bd.exec
  have hby := Bd.bytes
  have hml : c.maxLocals = 1 := hml0
  have hown : s.vm.findClass "com/example/plainwire/plainwire/rfc806/Element" = some m.cls := findClass_of_methodNamed Bd.named
  have X0 : Stand p l e ({ frames := 0, cells := 0, slots := 0, locals := 0 } : Room) s m #[(.ref s_FIELD)] below meth c s₁ [] 0 0 := Stand.of_body Bd
  have e0 : s₁.heap = h0 := by rw [← hh, Bd.state]; rfl
  have N0 := Fr.nil n0
  have pre0 : ∀ t, Steps p.tables e below (s₁.setTop (mkF m 0 #[.val (.ref s_FIELD)] [])) t → Steps p.tables e below (s₁.setTop (entryFrame m #[(.ref s_FIELD)] 1)) t := fun t k => castTop (by first | (simp [entryFrame, mkF, argsToLocals, Value.category]; done) | rfl) k
  obtain ⟨T1, X1, e1, st1⟩ := getF X0 hx hZ hown (host := "") (Or.inl (hw _ (List.mem_of_getElem? (i := 20) rfl))) Via.refl e0 F_FIELD_qualifierTag (g := (mkF m 1 #[.val (.ref s_FIELD)] [(.ref s_FIELD)])) rfl rfl (hb hby d2_1)
  obtain ⟨fs, hr, hrun, hended, hW, hsame⟩ := X1.leave (v := some (.ref t_FIELD_qualifierTag)) (fun h => by rw [Bd.returns] at h; cases h)
  refine ⟨_, _, pre0 _ ?_, hrun, hended, _, _, rfl, ?_, ⟨_, rfl⟩, hW, hsame.mono (by decide) (by decide)⟩
  · show Steps p.tables e below (s₁.setTop (mkF m 0 #[.val (.ref s_FIELD)] [])) _
    refine XS.aloadN X0.here hx rfl (hb hby d2_0) rfl rfl ?_
    show Steps p.tables e below (s₁.setTop (mkF m 1 #[.val (.ref s_FIELD)] [(.ref s_FIELD)])) _
    refine st1 _ ?_
    show Steps p.tables e below (T1.setTop (mkF m 4 #[.val (.ref s_FIELD)] [(.ref t_FIELD_qualifierTag)])) _
    exact retOut X1 hx (i := .areturn) Bd.returns rfl (Or.inr (Or.inr (Or.inr (Or.inr ⟨rfl, rfl, rfl⟩)))) (hb hby d2_4) hr
  · exact ⟨rfl, N0, e1⟩
set_option maxRecDepth 65536 in
set_option maxHeartbeats 40000000 in
theorem law_k15 (l : Launch) (Z : State) (a0 : Array Value) (hw : ∀ d ∈ tables_1, d.before a0 Z = true) (ws : List Jvm.Cond) (h0 : Heap) (n0 : Nat) (s_NO_OP : Addr) (s_END_OF_CONSTRUCTOR : Addr) (s_ASCII_STRING : Addr) (s_BOOLEAN : Addr) (s_UNIQUE_ID : Addr) (s_SEQUENCE : Addr) (s_SET : Addr) (s_INTEGER : Addr) (s_PADDING : Addr) (s_PROPERTY_LIST : Addr) (s_DATE : Addr) (s_BIT_STRING : Addr) (t_BIT_STRING_qualifierTag : Addr) (s_PROPERTY : Addr) (s_FIELD : Addr) (t_FIELD_qualifierTag : Addr) (s_COMPRESSED : Addr) (s_ENCRYPTED : Addr) (t_ENCRYPTED_qualifierTag : Addr) (s_MESSAGE : Addr) (t_MESSAGE_qualifierTag : Addr) (s_EXTENSION : Addr) (s_VENDOR_DEFINED : Addr) (K : Ctx Z h0 s_NO_OP s_END_OF_CONSTRUCTOR s_ASCII_STRING s_BOOLEAN s_UNIQUE_ID s_SEQUENCE s_SET s_INTEGER s_PADDING s_PROPERTY_LIST s_DATE s_BIT_STRING t_BIT_STRING_qualifierTag s_PROPERTY s_FIELD t_FIELD_qualifierTag s_COMPRESSED s_ENCRYPTED t_ENCRYPTED_qualifierTag s_MESSAGE t_MESSAGE_qualifierTag s_EXTENSION s_VENDOR_DEFINED) (p0 : Int32) (hp0 : ((p0 &&& (2147483647 : Int32)) % (19 : Int32)) = (15 : Int32)) :
    MetFree l x (head1 (Jvm.Cond.code x code maxLocals ret :: ws) room_1) (fun a U => a = #[(.int p0)] ∧ Z.Warmed39 U.vm ∧ U.heap = h0) (fun _ _ _ _ _ => True) (fun _ U o U' => ∃ v L, o = .returned v ∧ QV (.int (1 : Int32)) h0 n0 v U'.heap L ∧ FrameEnd U o U' L room_1.cells room_1.slots) := by
  obtain ⟨S_NO_OP, F_NO_OP_code, E_NO_OP, F_NO_OP_qualifierTag, S_END_OF_CONSTRUCTOR, F_END_OF_CONSTRUCTOR_code, E_END_OF_CONSTRUCTOR, F_END_OF_CONSTRUCTOR_qualifierTag, S_ASCII_STRING, F_ASCII_STRING_code, E_ASCII_STRING, F_ASCII_STRING_qualifierTag, S_BOOLEAN, F_BOOLEAN_code, E_BOOLEAN, F_BOOLEAN_qualifierTag, S_UNIQUE_ID, F_UNIQUE_ID_code, E_UNIQUE_ID, F_UNIQUE_ID_qualifierTag, S_SEQUENCE, F_SEQUENCE_code, E_SEQUENCE, F_SEQUENCE_qualifierTag, S_SET, F_SET_code, E_SET, F_SET_qualifierTag, S_INTEGER, F_INTEGER_code, E_INTEGER, F_INTEGER_qualifierTag, S_PADDING, F_PADDING_code, E_PADDING, F_PADDING_qualifierTag, S_PROPERTY_LIST, F_PROPERTY_LIST_code, E_PROPERTY_LIST, F_PROPERTY_LIST_qualifierTag, S_DATE, F_DATE_code, E_DATE, F_DATE_qualifierTag, S_BIT_STRING, F_BIT_STRING_code, E_BIT_STRING, F_BIT_STRING_qualifierTag, S_PROPERTY, F_PROPERTY_code, E_PROPERTY, F_PROPERTY_qualifierTag, S_COMPRESSED, F_COMPRESSED_code, E_COMPRESSED, F_COMPRESSED_qualifierTag, S_ENCRYPTED, F_ENCRYPTED_code, E_ENCRYPTED, F_ENCRYPTED_qualifierTag, S_FIELD, F_FIELD_code, E_FIELD, F_FIELD_qualifierTag, S_MESSAGE, F_MESSAGE_code, E_MESSAGE, F_MESSAGE_qualifierTag, S_EXTENSION, F_EXTENSION_code, E_EXTENSION, F_EXTENSION_qualifierTag, S_VENDOR_DEFINED, F_VENDOR_DEFINED_code, E_VENDOR_DEFINED, F_VENDOR_DEFINED_qualifierTag⟩ := id K
  refine MetFree.of_bodySF (plainFor_of_name pn3) hisR ?_
  intro p e s m args below meth c s₁ Bd hml0 hP hK
  obtain ⟨rfl, hZ, hh⟩ := hP
  have hx := Bd.exec
  have hby := Bd.bytes
  have hml : c.maxLocals = 6 := hml0
  have hown : s.vm.findClass "com/example/plainwire/plainwire/rfc806/ElementQualifiedPinLaw" = some m.cls := findClass_of_methodNamed Bd.named
  have X0 : Stand p l e room_1 s m #[(.int p0)] below meth c s₁ [] 0 0 := Stand.of_body Bd
  have e0 : s₁.heap = h0 := by rw [← hh, Bd.state]; rfl
  have N0 := Fr.nil n0
  have pre0 : ∀ t, Steps p.tables e below (s₁.setTop (mkF m 0 #[.val (.int p0), .unset, .unset, .unset, .unset, .unset] [])) t → Steps p.tables e below (s₁.setTop (entryFrame m #[(.int p0)] maxLocals)) t := fun t k => castTop (by first | (simp [entryFrame, mkF, argsToLocals, Value.category, maxLocals]; done) | rfl) k
  obtain ⟨_, _, ⟨T1, L1, k1, n1⟩, -, X1, ⟨Lc1, hQ1, l1, y1, z1⟩, st1⟩ := Jvm.LawKit.callS X0 hx (y := (⟨"com/example/plainwire/plainwire/rfc806/ElementQualifiedPinLaw", "pick", "(I)Lcom/example/plainwire/plainwire/rfc806/Element;"⟩ : MethodName)) hown (mvT hZ (hw _ (List.mem_of_getElem? (i := 1) rfl))) (mvT hZ (hw _ (List.mem_of_getElem? (i := 2) rfl))) (mvT hZ (hw _ (List.mem_of_getElem? (i := 3) rfl))) (mvT hZ (hw _ (List.mem_of_getElem? (i := 4) rfl))) (by decide) (backOf (W := 0) (r60 l Z a0 hw [] h0 n0 s_NO_OP s_END_OF_CONSTRUCTOR s_ASCII_STRING s_BOOLEAN s_UNIQUE_ID s_SEQUENCE s_SET s_INTEGER s_PADDING s_PROPERTY_LIST s_DATE s_BIT_STRING t_BIT_STRING_qualifierTag s_PROPERTY s_FIELD t_FIELD_qualifierTag s_COMPRESSED s_ENCRYPTED t_ENCRYPTED_qualifierTag s_MESSAGE t_MESSAGE_qualifierTag s_EXTENSION s_VENDOR_DEFINED K) hZ (hw _ (List.mem_of_getElem? (i := 4) rfl)) (hw _ (List.mem_of_getElem? (i := 3) rfl)) (by decide) (by decide)) (g := (mkF m 9 #[.val (.int p0), .val (.int (15 : Int32)), .unset, .unset, .unset, .unset] [(.int (15 : Int32))])) rfl (by rw [hml]; rfl) (argsL := [(.int (15 : Int32))]) (rest := []) (lenOf pd0 rfl) rfl (by show 2 * 0 + _ ≤ _; exact Nat.le_of_eq rfl) (hb hby at_9) (fun _ _ => ⟨rfl, e0, (by decide : 0 + 0 ≤ _), (by decide : 0 + 0 ≤ _)⟩)
  dsimp only [Pt.U, Pt.locs, Pt.cells, Pt.slots] at X1 l1 y1 z1 st1 hQ1
  subst l1 y1 z1
  obtain ⟨rfl, N1q, e1⟩ := hQ1
  have N1 := Fr.app N0 N1q
  obtain ⟨cq2, kq2, q2a, q2b, q2c⟩ := isOf hZ e1 E_FIELD
  obtain ⟨_, _, ⟨T2, L2, k2, n2⟩, -, X2, ⟨Lc2, hQ2, l2, y2, z2⟩, st2⟩ := X1.virtualBack hx (y := (⟨"com/example/plainwire/plainwire/rfc806/Element", "qualified", "()Z"⟩ : MethodName)) (z := (⟨"com/example/plainwire/plainwire/rfc806/Element", "qualified", "()Z"⟩ : MethodName)) hown (mvT hZ (hw _ (List.mem_of_getElem? (i := 8) rfl))) (mvT hZ (hw _ (List.mem_of_getElem? (i := 9) rfl))) (notFace_of_selects (args := #[]) (mvT hZ (hw _ (List.mem_of_getElem? (i := 11) rfl)))) (mvT hZ (hw _ (List.mem_of_getElem? (i := 11) rfl))) (mvT hZ (hw _ (List.mem_of_getElem? (i := 10) rfl))) (by decide) (backOf (W := 0) (r61 l Z a0 hw [] h0 n0 s_NO_OP s_END_OF_CONSTRUCTOR s_ASCII_STRING s_BOOLEAN s_UNIQUE_ID s_SEQUENCE s_SET s_INTEGER s_PADDING s_PROPERTY_LIST s_DATE s_BIT_STRING t_BIT_STRING_qualifierTag s_PROPERTY s_FIELD t_FIELD_qualifierTag s_COMPRESSED s_ENCRYPTED t_ENCRYPTED_qualifierTag s_MESSAGE t_MESSAGE_qualifierTag s_EXTENSION s_VENDOR_DEFINED K) hZ (hw _ (List.mem_of_getElem? (i := 12) rfl)) (hw _ (List.mem_of_getElem? (i := 6) rfl)) (by decide) (by decide)) q2a q2c (g := (mkF m 26 #[.val (.int p0), .val (.int (15 : Int32)), .val (.ref s_FIELD), .val (.int (1 : Int32)), .unset, .unset] [(.ref s_FIELD)])) rfl (by rw [hml]; rfl) (Steps.refl _) (argsL := []) (rest := []) (lenOf pd1 rfl) rfl (by show 2 * 0 + _ ≤ _; exact Nat.le_of_eq rfl) (hb hby at_26) (fun _ _ => ⟨rfl, e1, (by decide : 0 + 0 ≤ _), (by decide : 0 + 0 ≤ _)⟩)
  dsimp only [Pt.U, Pt.locs, Pt.cells, Pt.slots] at X2 l2 y2 z2 st2 hQ2
  subst l2 y2 z2
  obtain ⟨rfl, N2q, e2⟩ := hQ2
  have N2 := Fr.app N1 N2q
  obtain ⟨cq3, kq3, q3a, q3b, q3c⟩ := isOf hZ e2 E_FIELD
  obtain ⟨_, _, ⟨T3, L3, k3, n3⟩, -, X3, ⟨Lc3, hQ3, l3, y3, z3⟩, st3⟩ := X2.virtualBack hx (y := (⟨"com/example/plainwire/plainwire/rfc806/Element", "qualifierTag", "()Ljava/lang/String;"⟩ : MethodName)) (z := (⟨"com/example/plainwire/plainwire/rfc806/Element", "qualifierTag", "()Ljava/lang/String;"⟩ : MethodName)) hown (mvT hZ (hw _ (List.mem_of_getElem? (i := 15) rfl))) (mvT hZ (hw _ (List.mem_of_getElem? (i := 16) rfl))) (notFace_of_selects (args := #[]) (mvT hZ (hw _ (List.mem_of_getElem? (i := 18) rfl)))) (mvT hZ (hw _ (List.mem_of_getElem? (i := 18) rfl))) (mvT hZ (hw _ (List.mem_of_getElem? (i := 17) rfl))) (by decide) (backOf (W := 0) (r62 l Z a0 hw [] h0 n0 s_NO_OP s_END_OF_CONSTRUCTOR s_ASCII_STRING s_BOOLEAN s_UNIQUE_ID s_SEQUENCE s_SET s_INTEGER s_PADDING s_PROPERTY_LIST s_DATE s_BIT_STRING t_BIT_STRING_qualifierTag s_PROPERTY s_FIELD t_FIELD_qualifierTag s_COMPRESSED s_ENCRYPTED t_ENCRYPTED_qualifierTag s_MESSAGE t_MESSAGE_qualifierTag s_EXTENSION s_VENDOR_DEFINED K) hZ (hw _ (List.mem_of_getElem? (i := 19) rfl)) (hw _ (List.mem_of_getElem? (i := 6) rfl)) (by decide) (by decide)) q3a q3c (g := (mkF m 32 #[.val (.int p0), .val (.int (15 : Int32)), .val (.ref s_FIELD), .val (.int (1 : Int32)), .val (.int (1 : Int32)), .unset] [(.ref s_FIELD)])) rfl (by rw [hml]; rfl) (Steps.refl _) (argsL := []) (rest := []) (lenOf pd2 rfl) rfl (by show 2 * 0 + _ ≤ _; exact Nat.le_of_eq rfl) (hb hby at_32) (fun _ _ => ⟨rfl, e2, (by decide : 0 + 0 ≤ _), (by decide : 0 + 0 ≤ _)⟩)
  dsimp only [Pt.U, Pt.locs, Pt.cells, Pt.slots] at X3 l3 y3 z3 st3 hQ3
  subst l3 y3 z3
  obtain ⟨rfl, N3q, e3⟩ := hQ3
  have N3 := Fr.app N2 N3q
  obtain ⟨fs, hr, hrun, hended, hW, hsame⟩ := X3.leave (v := some (.int (1 : Int32))) (fun h => by rw [Bd.returns] at h; cases h)
  refine ⟨_, _, pre0 _ ?_, hrun, hended, _, _, rfl, ?_, ⟨_, rfl⟩, hW, hsame.mono (by decide) (by decide)⟩
  · show Steps p.tables e below (s₁.setTop (mkF m 0 #[.val (.int p0), .unset, .unset, .unset, .unset, .unset] [])) _
    refine XS.iloadN X0.here hx rfl (hb hby at_0) rfl ?_
    show Steps p.tables e below (s₁.setTop (mkF m 1 #[.val (.int p0), .unset, .unset, .unset, .unset, .unset] [(.int p0)])) _
    refine X0.ldcInt hx hown (mvT hZ (hw _ (List.mem_of_getElem? (i := 0) rfl))) (g := (mkF m 1 #[.val (.int p0), .unset, .unset, .unset, .unset, .unset] [(.int p0)])) rfl (hb hby at_1) _ ?_
    show Steps p.tables e below (s₁.setTop (mkF m 3 #[.val (.int p0), .unset, .unset, .unset, .unset, .unset] [(.int (2147483647 : Int32)), (.int p0)])) _
    refine XS.iand X0.here hx rfl (hb hby at_3) rfl ?_
    show Steps p.tables e below (s₁.setTop (mkF m 4 #[.val (.int p0), .unset, .unset, .unset, .unset, .unset] [(.int (p0 &&& (2147483647 : Int32)))])) _
    refine XS.bipush X0.here hx rfl (hb hby at_4) ?_
    show Steps p.tables e below (s₁.setTop (mkF m 6 #[.val (.int p0), .unset, .unset, .unset, .unset, .unset] [(.int (19 : Int32)), (.int (p0 &&& (2147483647 : Int32)))])) _
    refine Jvm.RoadKit.iremM X0 hx rfl (hb hby at_6) rfl (by decide) ?_
    show Steps p.tables e below (s₁.setTop (mkF m 7 #[.val (.int p0), .unset, .unset, .unset, .unset, .unset] [(.int ((p0 &&& (2147483647 : Int32)) % (19 : Int32)))])) _
    rw [hp0]
    show Steps p.tables e below (s₁.setTop (mkF m 7 #[.val (.int p0), .unset, .unset, .unset, .unset, .unset] [(.int (15 : Int32))])) _
    refine XS.istoreN X0.here hx rfl (hb hby at_7) rfl (l' := #[.val (.int p0), .val (.int (15 : Int32)), .unset, .unset, .unset, .unset]) rfl ?_
    show Steps p.tables e below (s₁.setTop (mkF m 8 #[.val (.int p0), .val (.int (15 : Int32)), .unset, .unset, .unset, .unset] [])) _
    refine XS.iloadN X0.here hx rfl (hb hby at_8) rfl ?_
    show Steps p.tables e below (s₁.setTop (mkF m 9 #[.val (.int p0), .val (.int (15 : Int32)), .unset, .unset, .unset, .unset] [(.int (15 : Int32))])) _
    refine st1 _ ?_
    show Steps p.tables e below (T1.setTop (mkF m 12 #[.val (.int p0), .val (.int (15 : Int32)), .unset, .unset, .unset, .unset] [(.ref s_FIELD)])) _
    refine XS.astoreN X1.here hx rfl (hb hby at_12) rfl rfl (l' := #[.val (.int p0), .val (.int (15 : Int32)), .val (.ref s_FIELD), .unset, .unset, .unset]) rfl ?_
    show Steps p.tables e below (T1.setTop (mkF m 13 #[.val (.int p0), .val (.int (15 : Int32)), .val (.ref s_FIELD), .unset, .unset, .unset] [])) _
    refine XS.iloadN X1.here hx rfl (hb hby at_13) rfl ?_
    show Steps p.tables e below (T1.setTop (mkF m 14 #[.val (.int p0), .val (.int (15 : Int32)), .val (.ref s_FIELD), .unset, .unset, .unset] [(.int (15 : Int32))])) _
    refine XS.bipush X1.here hx rfl (hb hby at_14) ?_
    show Steps p.tables e below (T1.setTop (mkF m 16 #[.val (.int p0), .val (.int (15 : Int32)), .val (.ref s_FIELD), .unset, .unset, .unset] [(.int (11 : Int32)), (.int (15 : Int32))])) _
    refine XS.icmpNo X1.here hx rfl (hb hby at_16) rfl (by decide +kernel) ?_
    show Steps p.tables e below (T1.setTop (mkF m 19 #[.val (.int p0), .val (.int (15 : Int32)), .val (.ref s_FIELD), .unset, .unset, .unset] [])) _
    refine XS.iconst X1.here hx rfl (hb hby at_19) ?_
    show Steps p.tables e below (T1.setTop (mkF m 20 #[.val (.int p0), .val (.int (15 : Int32)), .val (.ref s_FIELD), .unset, .unset, .unset] [(.int (1 : Int32))])) _
    refine XS.goto X1.here hx rfl (pc0 := 20) (pc' := 24) rfl (hb hby at_20) (by decide) (by decide) ?_
    show Steps p.tables e below (T1.setTop (mkF m 24 #[.val (.int p0), .val (.int (15 : Int32)), .val (.ref s_FIELD), .unset, .unset, .unset] [(.int (1 : Int32))])) _
    refine XS.istoreN X1.here hx rfl (hb hby at_24) rfl (l' := #[.val (.int p0), .val (.int (15 : Int32)), .val (.ref s_FIELD), .val (.int (1 : Int32)), .unset, .unset]) rfl ?_
    show Steps p.tables e below (T1.setTop (mkF m 25 #[.val (.int p0), .val (.int (15 : Int32)), .val (.ref s_FIELD), .val (.int (1 : Int32)), .unset, .unset] [])) _
    refine XS.aloadN X1.here hx rfl (hb hby at_25) rfl rfl ?_
    show Steps p.tables e below (T1.setTop (mkF m 26 #[.val (.int p0), .val (.int (15 : Int32)), .val (.ref s_FIELD), .val (.int (1 : Int32)), .unset, .unset] [(.ref s_FIELD)])) _
    refine st2.trans ?_
    show Steps p.tables e below (T2.setTop (mkF m 29 #[.val (.int p0), .val (.int (15 : Int32)), .val (.ref s_FIELD), .val (.int (1 : Int32)), .unset, .unset] [(.int (1 : Int32))])) _
    refine XS.istore X2.here hx rfl (hb hby at_29) rfl (l' := #[.val (.int p0), .val (.int (15 : Int32)), .val (.ref s_FIELD), .val (.int (1 : Int32)), .val (.int (1 : Int32)), .unset]) rfl ?_
    show Steps p.tables e below (T2.setTop (mkF m 31 #[.val (.int p0), .val (.int (15 : Int32)), .val (.ref s_FIELD), .val (.int (1 : Int32)), .val (.int (1 : Int32)), .unset] [])) _
    refine XS.aloadN X2.here hx rfl (hb hby at_31) rfl rfl ?_
    show Steps p.tables e below (T2.setTop (mkF m 32 #[.val (.int p0), .val (.int (15 : Int32)), .val (.ref s_FIELD), .val (.int (1 : Int32)), .val (.int (1 : Int32)), .unset] [(.ref s_FIELD)])) _
    refine st3.trans ?_
    show Steps p.tables e below (T3.setTop (mkF m 35 #[.val (.int p0), .val (.int (15 : Int32)), .val (.ref s_FIELD), .val (.int (1 : Int32)), .val (.int (1 : Int32)), .unset] [(.ref t_FIELD_qualifierTag)])) _
    refine XS.ifnullNo X3.here hx rfl (hb hby at_35) rfl ?_
    show Steps p.tables e below (T3.setTop (mkF m 38 #[.val (.int p0), .val (.int (15 : Int32)), .val (.ref s_FIELD), .val (.int (1 : Int32)), .val (.int (1 : Int32)), .unset] [])) _
    refine XS.iconst X3.here hx rfl (hb hby at_38) ?_
    show Steps p.tables e below (T3.setTop (mkF m 39 #[.val (.int p0), .val (.int (15 : Int32)), .val (.ref s_FIELD), .val (.int (1 : Int32)), .val (.int (1 : Int32)), .unset] [(.int (1 : Int32))])) _
    refine XS.goto X3.here hx rfl (pc0 := 39) (pc' := 43) rfl (hb hby at_39) (by decide) (by decide) ?_
    show Steps p.tables e below (T3.setTop (mkF m 43 #[.val (.int p0), .val (.int (15 : Int32)), .val (.ref s_FIELD), .val (.int (1 : Int32)), .val (.int (1 : Int32)), .unset] [(.int (1 : Int32))])) _
    refine XS.istore X3.here hx rfl (hb hby at_43) rfl (l' := #[.val (.int p0), .val (.int (15 : Int32)), .val (.ref s_FIELD), .val (.int (1 : Int32)), .val (.int (1 : Int32)), .val (.int (1 : Int32))]) rfl ?_
    show Steps p.tables e below (T3.setTop (mkF m 45 #[.val (.int p0), .val (.int (15 : Int32)), .val (.ref s_FIELD), .val (.int (1 : Int32)), .val (.int (1 : Int32)), .val (.int (1 : Int32))] [])) _
    refine XS.iload X3.here hx rfl (hb hby at_45) rfl ?_
    show Steps p.tables e below (T3.setTop (mkF m 47 #[.val (.int p0), .val (.int (15 : Int32)), .val (.ref s_FIELD), .val (.int (1 : Int32)), .val (.int (1 : Int32)), .val (.int (1 : Int32))] [(.int (1 : Int32))])) _
    refine XS.iloadN X3.here hx rfl (hb hby at_47) rfl ?_
    show Steps p.tables e below (T3.setTop (mkF m 48 #[.val (.int p0), .val (.int (15 : Int32)), .val (.ref s_FIELD), .val (.int (1 : Int32)), .val (.int (1 : Int32)), .val (.int (1 : Int32))] [(.int (1 : Int32)), (.int (1 : Int32))])) _
    refine XS.icmpNo X3.here hx rfl (hb hby at_48) rfl (by decide +kernel) ?_
    show Steps p.tables e below (T3.setTop (mkF m 51 #[.val (.int p0), .val (.int (15 : Int32)), .val (.ref s_FIELD), .val (.int (1 : Int32)), .val (.int (1 : Int32)), .val (.int (1 : Int32))] [])) _
    refine XS.iload X3.here hx rfl (hb hby at_51) rfl ?_
    show Steps p.tables e below (T3.setTop (mkF m 53 #[.val (.int p0), .val (.int (15 : Int32)), .val (.ref s_FIELD), .val (.int (1 : Int32)), .val (.int (1 : Int32)), .val (.int (1 : Int32))] [(.int (1 : Int32))])) _
    refine XS.iload X3.here hx rfl (hb hby at_53) rfl ?_
    show Steps p.tables e below (T3.setTop (mkF m 55 #[.val (.int p0), .val (.int (15 : Int32)), .val (.ref s_FIELD), .val (.int (1 : Int32)), .val (.int (1 : Int32)), .val (.int (1 : Int32))] [(.int (1 : Int32)), (.int (1 : Int32))])) _
    refine XS.icmpNo X3.here hx rfl (hb hby at_55) rfl (by decide +kernel) ?_
    show Steps p.tables e below (T3.setTop (mkF m 58 #[.val (.int p0), .val (.int (15 : Int32)), .val (.ref s_FIELD), .val (.int (1 : Int32)), .val (.int (1 : Int32)), .val (.int (1 : Int32))] [])) _
    refine XS.iconst X3.here hx rfl (hb hby at_58) ?_
    show Steps p.tables e below (T3.setTop (mkF m 59 #[.val (.int p0), .val (.int (15 : Int32)), .val (.ref s_FIELD), .val (.int (1 : Int32)), .val (.int (1 : Int32)), .val (.int (1 : Int32))] [(.int (1 : Int32))])) _
    refine XS.goto X3.here hx rfl (pc0 := 59) (pc' := 63) rfl (hb hby at_59) (by decide) (by decide) ?_
    show Steps p.tables e below (T3.setTop (mkF m 63 #[.val (.int p0), .val (.int (15 : Int32)), .val (.ref s_FIELD), .val (.int (1 : Int32)), .val (.int (1 : Int32)), .val (.int (1 : Int32))] [(.int (1 : Int32))])) _
    exact retN X3 hx (t := .boolean) Bd.returns (by simp) (hb hby at_63) hr
  · exact ⟨rfl, N3, e3⟩
set_option maxRecDepth 65536 in
set_option maxHeartbeats 40000000 in
theorem r64 (l : Launch) (Z : State) (a0 : Array Value) (hw : ∀ d ∈ tables_1, d.before a0 Z = true) (ws : List Jvm.Cond) (h0 : Heap) (n0 : Nat) (s_NO_OP : Addr) (s_END_OF_CONSTRUCTOR : Addr) (s_ASCII_STRING : Addr) (s_BOOLEAN : Addr) (s_UNIQUE_ID : Addr) (s_SEQUENCE : Addr) (s_SET : Addr) (s_INTEGER : Addr) (s_PADDING : Addr) (s_PROPERTY_LIST : Addr) (s_DATE : Addr) (s_BIT_STRING : Addr) (t_BIT_STRING_qualifierTag : Addr) (s_PROPERTY : Addr) (s_FIELD : Addr) (t_FIELD_qualifierTag : Addr) (s_COMPRESSED : Addr) (s_ENCRYPTED : Addr) (t_ENCRYPTED_qualifierTag : Addr) (s_MESSAGE : Addr) (t_MESSAGE_qualifierTag : Addr) (s_EXTENSION : Addr) (s_VENDOR_DEFINED : Addr) (K : Ctx Z h0 s_NO_OP s_END_OF_CONSTRUCTOR s_ASCII_STRING s_BOOLEAN s_UNIQUE_ID s_SEQUENCE s_SET s_INTEGER s_PADDING s_PROPERTY_LIST s_DATE s_BIT_STRING t_BIT_STRING_qualifierTag s_PROPERTY s_FIELD t_FIELD_qualifierTag s_COMPRESSED s_ENCRYPTED t_ENCRYPTED_qualifierTag s_MESSAGE t_MESSAGE_qualifierTag s_EXTENSION s_VENDOR_DEFINED) :
    MetFree l (⟨"com/example/plainwire/plainwire/rfc806/ElementQualifiedPinLaw", "pick", "(I)Lcom/example/plainwire/plainwire/rfc806/Element;"⟩ : MethodName) (head1 (Jvm.Cond.code (⟨"com/example/plainwire/plainwire/rfc806/ElementQualifiedPinLaw", "pick", "(I)Lcom/example/plainwire/plainwire/rfc806/Element;"⟩ : MethodName) method_2_code 1 (some (.object "com/example/plainwire/plainwire/rfc806/Element")) :: ws) ({ frames := 0, cells := 0, slots := 0, locals := 0 } : Room)) (fun a U => a = #[(.int (16 : Int32))] ∧ Z.Warmed39 U.vm ∧ U.heap = h0) (fun _ _ _ _ _ => True) (fun _ U o U' => ∃ v L, o = .returned v ∧ QV (.ref s_MESSAGE) h0 n0 v U'.heap L ∧ FrameEnd U o U' L ({ frames := 0, cells := 0, slots := 0, locals := 0 } : Room).cells ({ frames := 0, cells := 0, slots := 0, locals := 0 } : Room).slots) := by
  obtain ⟨S_NO_OP, F_NO_OP_code, E_NO_OP, F_NO_OP_qualifierTag, S_END_OF_CONSTRUCTOR, F_END_OF_CONSTRUCTOR_code, E_END_OF_CONSTRUCTOR, F_END_OF_CONSTRUCTOR_qualifierTag, S_ASCII_STRING, F_ASCII_STRING_code, E_ASCII_STRING, F_ASCII_STRING_qualifierTag, S_BOOLEAN, F_BOOLEAN_code, E_BOOLEAN, F_BOOLEAN_qualifierTag, S_UNIQUE_ID, F_UNIQUE_ID_code, E_UNIQUE_ID, F_UNIQUE_ID_qualifierTag, S_SEQUENCE, F_SEQUENCE_code, E_SEQUENCE, F_SEQUENCE_qualifierTag, S_SET, F_SET_code, E_SET, F_SET_qualifierTag, S_INTEGER, F_INTEGER_code, E_INTEGER, F_INTEGER_qualifierTag, S_PADDING, F_PADDING_code, E_PADDING, F_PADDING_qualifierTag, S_PROPERTY_LIST, F_PROPERTY_LIST_code, E_PROPERTY_LIST, F_PROPERTY_LIST_qualifierTag, S_DATE, F_DATE_code, E_DATE, F_DATE_qualifierTag, S_BIT_STRING, F_BIT_STRING_code, E_BIT_STRING, F_BIT_STRING_qualifierTag, S_PROPERTY, F_PROPERTY_code, E_PROPERTY, F_PROPERTY_qualifierTag, S_COMPRESSED, F_COMPRESSED_code, E_COMPRESSED, F_COMPRESSED_qualifierTag, S_ENCRYPTED, F_ENCRYPTED_code, E_ENCRYPTED, F_ENCRYPTED_qualifierTag, S_FIELD, F_FIELD_code, E_FIELD, F_FIELD_qualifierTag, S_MESSAGE, F_MESSAGE_code, E_MESSAGE, F_MESSAGE_qualifierTag, S_EXTENSION, F_EXTENSION_code, E_EXTENSION, F_EXTENSION_qualifierTag, S_VENDOR_DEFINED, F_VENDOR_DEFINED_code, E_VENDOR_DEFINED, F_VENDOR_DEFINED_qualifierTag⟩ := id K
  refine MetFree.of_bodySF (plainFor_of_name pn0) hisR ?_
  intro p e s m args below meth c s₁ Bd hml0 hP hK
  obtain ⟨rfl, hZ, hh⟩ := hP
  have hx := Bd.exec
  have hby := Bd.bytes
  have hml : c.maxLocals = 1 := hml0
  have hown : s.vm.findClass "com/example/plainwire/plainwire/rfc806/ElementQualifiedPinLaw" = some m.cls := findClass_of_methodNamed Bd.named
  have X0 : Stand p l e ({ frames := 0, cells := 0, slots := 0, locals := 0 } : Room) s m #[(.int (16 : Int32))] below meth c s₁ [] 0 0 := Stand.of_body Bd
  have e0 : s₁.heap = h0 := by rw [← hh, Bd.state]; rfl
  have N0 := Fr.nil n0
  have pre0 : ∀ t, Steps p.tables e below (s₁.setTop (mkF m 0 #[.val (.int (16 : Int32))] [])) t → Steps p.tables e below (s₁.setTop (entryFrame m #[(.int (16 : Int32))] 1)) t := fun t k => castTop (by first | (simp [entryFrame, mkF, argsToLocals, Value.category]; done) | rfl) k
  obtain ⟨T1, X1, e1, st1⟩ := getS X0 hx hZ hown (host := "") (hw _ (List.mem_of_getElem? (i := 48) rfl)) Via.refl e0 S_MESSAGE (g := (mkF m 159 #[.val (.int (16 : Int32))] [])) rfl (hb hby d0_159)
  obtain ⟨fs, hr, hrun, hended, hW, hsame⟩ := X1.leave (v := some (.ref s_MESSAGE)) (fun h => by rw [Bd.returns] at h; cases h)
  refine ⟨_, _, pre0 _ ?_, hrun, hended, _, _, rfl, ?_, ⟨_, rfl⟩, hW, hsame.mono (by decide) (by decide)⟩
  · show Steps p.tables e below (s₁.setTop (mkF m 0 #[.val (.int (16 : Int32))] [])) _
    refine XS.iloadN X0.here hx rfl (hb hby d0_0) rfl ?_
    show Steps p.tables e below (s₁.setTop (mkF m 1 #[.val (.int (16 : Int32))] [(.int (16 : Int32))])) _
    refine XS.ifYes X0.here hx rfl (pc0 := 1) (pc' := 8) rfl (hb hby d0_1) rfl (by decide +kernel) (by decide) (by decide) ?_
    show Steps p.tables e below (s₁.setTop (mkF m 8 #[.val (.int (16 : Int32))] [])) _
    refine XS.iloadN X0.here hx rfl (hb hby d0_8) rfl ?_
    show Steps p.tables e below (s₁.setTop (mkF m 9 #[.val (.int (16 : Int32))] [(.int (16 : Int32))])) _
    refine XS.iconst X0.here hx rfl (hb hby d0_9) ?_
    show Steps p.tables e below (s₁.setTop (mkF m 10 #[.val (.int (16 : Int32))] [(.int (1 : Int32)), (.int (16 : Int32))])) _
    refine XS.icmpYes X0.here hx rfl (pc0 := 10) (pc' := 17) rfl (hb hby d0_10) rfl (by decide +kernel) (by decide) (by decide) ?_
    show Steps p.tables e below (s₁.setTop (mkF m 17 #[.val (.int (16 : Int32))] [])) _
    refine XS.iloadN X0.here hx rfl (hb hby d0_17) rfl ?_
    show Steps p.tables e below (s₁.setTop (mkF m 18 #[.val (.int (16 : Int32))] [(.int (16 : Int32))])) _
    refine XS.iconst X0.here hx rfl (hb hby d0_18) ?_
    show Steps p.tables e below (s₁.setTop (mkF m 19 #[.val (.int (16 : Int32))] [(.int (2 : Int32)), (.int (16 : Int32))])) _
    refine XS.icmpYes X0.here hx rfl (pc0 := 19) (pc' := 26) rfl (hb hby d0_19) rfl (by decide +kernel) (by decide) (by decide) ?_
    show Steps p.tables e below (s₁.setTop (mkF m 26 #[.val (.int (16 : Int32))] [])) _
    refine XS.iloadN X0.here hx rfl (hb hby d0_26) rfl ?_
    show Steps p.tables e below (s₁.setTop (mkF m 27 #[.val (.int (16 : Int32))] [(.int (16 : Int32))])) _
    refine XS.iconst X0.here hx rfl (hb hby d0_27) ?_
    show Steps p.tables e below (s₁.setTop (mkF m 28 #[.val (.int (16 : Int32))] [(.int (3 : Int32)), (.int (16 : Int32))])) _
    refine XS.icmpYes X0.here hx rfl (pc0 := 28) (pc' := 35) rfl (hb hby d0_28) rfl (by decide +kernel) (by decide) (by decide) ?_
    show Steps p.tables e below (s₁.setTop (mkF m 35 #[.val (.int (16 : Int32))] [])) _
    refine XS.iloadN X0.here hx rfl (hb hby d0_35) rfl ?_
    show Steps p.tables e below (s₁.setTop (mkF m 36 #[.val (.int (16 : Int32))] [(.int (16 : Int32))])) _
    refine XS.iconst X0.here hx rfl (hb hby d0_36) ?_
    show Steps p.tables e below (s₁.setTop (mkF m 37 #[.val (.int (16 : Int32))] [(.int (4 : Int32)), (.int (16 : Int32))])) _
    refine XS.icmpYes X0.here hx rfl (pc0 := 37) (pc' := 44) rfl (hb hby d0_37) rfl (by decide +kernel) (by decide) (by decide) ?_
    show Steps p.tables e below (s₁.setTop (mkF m 44 #[.val (.int (16 : Int32))] [])) _
    refine XS.iloadN X0.here hx rfl (hb hby d0_44) rfl ?_
    show Steps p.tables e below (s₁.setTop (mkF m 45 #[.val (.int (16 : Int32))] [(.int (16 : Int32))])) _
    refine XS.iconst X0.here hx rfl (hb hby d0_45) ?_
    show Steps p.tables e below (s₁.setTop (mkF m 46 #[.val (.int (16 : Int32))] [(.int (5 : Int32)), (.int (16 : Int32))])) _
    refine XS.icmpYes X0.here hx rfl (pc0 := 46) (pc' := 53) rfl (hb hby d0_46) rfl (by decide +kernel) (by decide) (by decide) ?_
    show Steps p.tables e below (s₁.setTop (mkF m 53 #[.val (.int (16 : Int32))] [])) _
    refine XS.iloadN X0.here hx rfl (hb hby d0_53) rfl ?_
    show Steps p.tables e below (s₁.setTop (mkF m 54 #[.val (.int (16 : Int32))] [(.int (16 : Int32))])) _
    refine XS.bipush X0.here hx rfl (hb hby d0_54) ?_
    show Steps p.tables e below (s₁.setTop (mkF m 56 #[.val (.int (16 : Int32))] [(.int (6 : Int32)), (.int (16 : Int32))])) _
    refine XS.icmpYes X0.here hx rfl (pc0 := 56) (pc' := 63) rfl (hb hby d0_56) rfl (by decide +kernel) (by decide) (by decide) ?_
    show Steps p.tables e below (s₁.setTop (mkF m 63 #[.val (.int (16 : Int32))] [])) _
    refine XS.iloadN X0.here hx rfl (hb hby d0_63) rfl ?_
    show Steps p.tables e below (s₁.setTop (mkF m 64 #[.val (.int (16 : Int32))] [(.int (16 : Int32))])) _
    refine XS.bipush X0.here hx rfl (hb hby d0_64) ?_
    show Steps p.tables e below (s₁.setTop (mkF m 66 #[.val (.int (16 : Int32))] [(.int (7 : Int32)), (.int (16 : Int32))])) _
    refine XS.icmpYes X0.here hx rfl (pc0 := 66) (pc' := 73) rfl (hb hby d0_66) rfl (by decide +kernel) (by decide) (by decide) ?_
    show Steps p.tables e below (s₁.setTop (mkF m 73 #[.val (.int (16 : Int32))] [])) _
    refine XS.iloadN X0.here hx rfl (hb hby d0_73) rfl ?_
    show Steps p.tables e below (s₁.setTop (mkF m 74 #[.val (.int (16 : Int32))] [(.int (16 : Int32))])) _
    refine XS.bipush X0.here hx rfl (hb hby d0_74) ?_
    show Steps p.tables e below (s₁.setTop (mkF m 76 #[.val (.int (16 : Int32))] [(.int (8 : Int32)), (.int (16 : Int32))])) _
    refine XS.icmpYes X0.here hx rfl (pc0 := 76) (pc' := 83) rfl (hb hby d0_76) rfl (by decide +kernel) (by decide) (by decide) ?_
    show Steps p.tables e below (s₁.setTop (mkF m 83 #[.val (.int (16 : Int32))] [])) _
    refine XS.iloadN X0.here hx rfl (hb hby d0_83) rfl ?_
    show Steps p.tables e below (s₁.setTop (mkF m 84 #[.val (.int (16 : Int32))] [(.int (16 : Int32))])) _
    refine XS.bipush X0.here hx rfl (hb hby d0_84) ?_
    show Steps p.tables e below (s₁.setTop (mkF m 86 #[.val (.int (16 : Int32))] [(.int (9 : Int32)), (.int (16 : Int32))])) _
    refine XS.icmpYes X0.here hx rfl (pc0 := 86) (pc' := 93) rfl (hb hby d0_86) rfl (by decide +kernel) (by decide) (by decide) ?_
    show Steps p.tables e below (s₁.setTop (mkF m 93 #[.val (.int (16 : Int32))] [])) _
    refine XS.iloadN X0.here hx rfl (hb hby d0_93) rfl ?_
    show Steps p.tables e below (s₁.setTop (mkF m 94 #[.val (.int (16 : Int32))] [(.int (16 : Int32))])) _
    refine XS.bipush X0.here hx rfl (hb hby d0_94) ?_
    show Steps p.tables e below (s₁.setTop (mkF m 96 #[.val (.int (16 : Int32))] [(.int (10 : Int32)), (.int (16 : Int32))])) _
    refine XS.icmpYes X0.here hx rfl (pc0 := 96) (pc' := 103) rfl (hb hby d0_96) rfl (by decide +kernel) (by decide) (by decide) ?_
    show Steps p.tables e below (s₁.setTop (mkF m 103 #[.val (.int (16 : Int32))] [])) _
    refine XS.iloadN X0.here hx rfl (hb hby d0_103) rfl ?_
    show Steps p.tables e below (s₁.setTop (mkF m 104 #[.val (.int (16 : Int32))] [(.int (16 : Int32))])) _
    refine XS.bipush X0.here hx rfl (hb hby d0_104) ?_
    show Steps p.tables e below (s₁.setTop (mkF m 106 #[.val (.int (16 : Int32))] [(.int (11 : Int32)), (.int (16 : Int32))])) _
    refine XS.icmpYes X0.here hx rfl (pc0 := 106) (pc' := 113) rfl (hb hby d0_106) rfl (by decide +kernel) (by decide) (by decide) ?_
    show Steps p.tables e below (s₁.setTop (mkF m 113 #[.val (.int (16 : Int32))] [])) _
    refine XS.iloadN X0.here hx rfl (hb hby d0_113) rfl ?_
    show Steps p.tables e below (s₁.setTop (mkF m 114 #[.val (.int (16 : Int32))] [(.int (16 : Int32))])) _
    refine XS.bipush X0.here hx rfl (hb hby d0_114) ?_
    show Steps p.tables e below (s₁.setTop (mkF m 116 #[.val (.int (16 : Int32))] [(.int (12 : Int32)), (.int (16 : Int32))])) _
    refine XS.icmpYes X0.here hx rfl (pc0 := 116) (pc' := 123) rfl (hb hby d0_116) rfl (by decide +kernel) (by decide) (by decide) ?_
    show Steps p.tables e below (s₁.setTop (mkF m 123 #[.val (.int (16 : Int32))] [])) _
    refine XS.iloadN X0.here hx rfl (hb hby d0_123) rfl ?_
    show Steps p.tables e below (s₁.setTop (mkF m 124 #[.val (.int (16 : Int32))] [(.int (16 : Int32))])) _
    refine XS.bipush X0.here hx rfl (hb hby d0_124) ?_
    show Steps p.tables e below (s₁.setTop (mkF m 126 #[.val (.int (16 : Int32))] [(.int (13 : Int32)), (.int (16 : Int32))])) _
    refine XS.icmpYes X0.here hx rfl (pc0 := 126) (pc' := 133) rfl (hb hby d0_126) rfl (by decide +kernel) (by decide) (by decide) ?_
    show Steps p.tables e below (s₁.setTop (mkF m 133 #[.val (.int (16 : Int32))] [])) _
    refine XS.iloadN X0.here hx rfl (hb hby d0_133) rfl ?_
    show Steps p.tables e below (s₁.setTop (mkF m 134 #[.val (.int (16 : Int32))] [(.int (16 : Int32))])) _
    refine XS.bipush X0.here hx rfl (hb hby d0_134) ?_
    show Steps p.tables e below (s₁.setTop (mkF m 136 #[.val (.int (16 : Int32))] [(.int (14 : Int32)), (.int (16 : Int32))])) _
    refine XS.icmpYes X0.here hx rfl (pc0 := 136) (pc' := 143) rfl (hb hby d0_136) rfl (by decide +kernel) (by decide) (by decide) ?_
    show Steps p.tables e below (s₁.setTop (mkF m 143 #[.val (.int (16 : Int32))] [])) _
    refine XS.iloadN X0.here hx rfl (hb hby d0_143) rfl ?_
    show Steps p.tables e below (s₁.setTop (mkF m 144 #[.val (.int (16 : Int32))] [(.int (16 : Int32))])) _
    refine XS.bipush X0.here hx rfl (hb hby d0_144) ?_
    show Steps p.tables e below (s₁.setTop (mkF m 146 #[.val (.int (16 : Int32))] [(.int (15 : Int32)), (.int (16 : Int32))])) _
    refine XS.icmpYes X0.here hx rfl (pc0 := 146) (pc' := 153) rfl (hb hby d0_146) rfl (by decide +kernel) (by decide) (by decide) ?_
    show Steps p.tables e below (s₁.setTop (mkF m 153 #[.val (.int (16 : Int32))] [])) _
    refine XS.iloadN X0.here hx rfl (hb hby d0_153) rfl ?_
    show Steps p.tables e below (s₁.setTop (mkF m 154 #[.val (.int (16 : Int32))] [(.int (16 : Int32))])) _
    refine XS.bipush X0.here hx rfl (hb hby d0_154) ?_
    show Steps p.tables e below (s₁.setTop (mkF m 156 #[.val (.int (16 : Int32))] [(.int (16 : Int32)), (.int (16 : Int32))])) _
    refine XS.icmpNo X0.here hx rfl (hb hby d0_156) rfl (by decide +kernel) ?_
    show Steps p.tables e below (s₁.setTop (mkF m 159 #[.val (.int (16 : Int32))] [])) _
    refine st1 _ ?_
    show Steps p.tables e below (T1.setTop (mkF m 162 #[.val (.int (16 : Int32))] [(.ref s_MESSAGE)])) _
    exact retOut X1 hx (i := .areturn) Bd.returns rfl (Or.inr (Or.inr (Or.inr (Or.inr ⟨rfl, rfl, rfl⟩)))) (hb hby d0_162) hr
  · exact ⟨rfl, N0, e1⟩
set_option maxRecDepth 65536 in
set_option maxHeartbeats 40000000 in
theorem r65 (l : Launch) (Z : State) (a0 : Array Value) (hw : ∀ d ∈ tables_1, d.before a0 Z = true) (ws : List Jvm.Cond) (h0 : Heap) (n0 : Nat) (s_NO_OP : Addr) (s_END_OF_CONSTRUCTOR : Addr) (s_ASCII_STRING : Addr) (s_BOOLEAN : Addr) (s_UNIQUE_ID : Addr) (s_SEQUENCE : Addr) (s_SET : Addr) (s_INTEGER : Addr) (s_PADDING : Addr) (s_PROPERTY_LIST : Addr) (s_DATE : Addr) (s_BIT_STRING : Addr) (t_BIT_STRING_qualifierTag : Addr) (s_PROPERTY : Addr) (s_FIELD : Addr) (t_FIELD_qualifierTag : Addr) (s_COMPRESSED : Addr) (s_ENCRYPTED : Addr) (t_ENCRYPTED_qualifierTag : Addr) (s_MESSAGE : Addr) (t_MESSAGE_qualifierTag : Addr) (s_EXTENSION : Addr) (s_VENDOR_DEFINED : Addr) (K : Ctx Z h0 s_NO_OP s_END_OF_CONSTRUCTOR s_ASCII_STRING s_BOOLEAN s_UNIQUE_ID s_SEQUENCE s_SET s_INTEGER s_PADDING s_PROPERTY_LIST s_DATE s_BIT_STRING t_BIT_STRING_qualifierTag s_PROPERTY s_FIELD t_FIELD_qualifierTag s_COMPRESSED s_ENCRYPTED t_ENCRYPTED_qualifierTag s_MESSAGE t_MESSAGE_qualifierTag s_EXTENSION s_VENDOR_DEFINED) :
    MetFree l (⟨"com/example/plainwire/plainwire/rfc806/Element", "qualified", "()Z"⟩ : MethodName) (head1 (Jvm.Cond.code (⟨"com/example/plainwire/plainwire/rfc806/Element", "qualified", "()Z"⟩ : MethodName) prog_101_method_9_code 1 (some .boolean) :: ws) ({ frames := 0, cells := 0, slots := 0, locals := 0 } : Room)) (fun a U => a = #[(.ref s_MESSAGE)] ∧ Z.Warmed39 U.vm ∧ U.heap = h0) (fun _ _ _ _ _ => True) (fun _ U o U' => ∃ v L, o = .returned v ∧ QV (.int (1 : Int32)) h0 n0 v U'.heap L ∧ FrameEnd U o U' L ({ frames := 0, cells := 0, slots := 0, locals := 0 } : Room).cells ({ frames := 0, cells := 0, slots := 0, locals := 0 } : Room).slots) := by
  obtain ⟨S_NO_OP, F_NO_OP_code, E_NO_OP, F_NO_OP_qualifierTag, S_END_OF_CONSTRUCTOR, F_END_OF_CONSTRUCTOR_code, E_END_OF_CONSTRUCTOR, F_END_OF_CONSTRUCTOR_qualifierTag, S_ASCII_STRING, F_ASCII_STRING_code, E_ASCII_STRING, F_ASCII_STRING_qualifierTag, S_BOOLEAN, F_BOOLEAN_code, E_BOOLEAN, F_BOOLEAN_qualifierTag, S_UNIQUE_ID, F_UNIQUE_ID_code, E_UNIQUE_ID, F_UNIQUE_ID_qualifierTag, S_SEQUENCE, F_SEQUENCE_code, E_SEQUENCE, F_SEQUENCE_qualifierTag, S_SET, F_SET_code, E_SET, F_SET_qualifierTag, S_INTEGER, F_INTEGER_code, E_INTEGER, F_INTEGER_qualifierTag, S_PADDING, F_PADDING_code, E_PADDING, F_PADDING_qualifierTag, S_PROPERTY_LIST, F_PROPERTY_LIST_code, E_PROPERTY_LIST, F_PROPERTY_LIST_qualifierTag, S_DATE, F_DATE_code, E_DATE, F_DATE_qualifierTag, S_BIT_STRING, F_BIT_STRING_code, E_BIT_STRING, F_BIT_STRING_qualifierTag, S_PROPERTY, F_PROPERTY_code, E_PROPERTY, F_PROPERTY_qualifierTag, S_COMPRESSED, F_COMPRESSED_code, E_COMPRESSED, F_COMPRESSED_qualifierTag, S_ENCRYPTED, F_ENCRYPTED_code, E_ENCRYPTED, F_ENCRYPTED_qualifierTag, S_FIELD, F_FIELD_code, E_FIELD, F_FIELD_qualifierTag, S_MESSAGE, F_MESSAGE_code, E_MESSAGE, F_MESSAGE_qualifierTag, S_EXTENSION, F_EXTENSION_code, E_EXTENSION, F_EXTENSION_qualifierTag, S_VENDOR_DEFINED, F_VENDOR_DEFINED_code, E_VENDOR_DEFINED, F_VENDOR_DEFINED_qualifierTag⟩ := id K
  refine MetFree.of_bodySF (plainFor_of_name pn1) hisR ?_
  intro p e s m args below meth c s₁ Bd hml0 hP hK
  obtain ⟨rfl, hZ, hh⟩ := hP
  have hx := Bd.exec
  have hby := Bd.bytes
  have hml : c.maxLocals = 1 := hml0
  have hown : s.vm.findClass "com/example/plainwire/plainwire/rfc806/Element" = some m.cls := findClass_of_methodNamed Bd.named
  have X0 : Stand p l e ({ frames := 0, cells := 0, slots := 0, locals := 0 } : Room) s m #[(.ref s_MESSAGE)] below meth c s₁ [] 0 0 := Stand.of_body Bd
  have e0 : s₁.heap = h0 := by rw [← hh, Bd.state]; rfl
  have N0 := Fr.nil n0
  have pre0 : ∀ t, Steps p.tables e below (s₁.setTop (mkF m 0 #[.val (.ref s_MESSAGE)] [])) t → Steps p.tables e below (s₁.setTop (entryFrame m #[(.ref s_MESSAGE)] 1)) t := fun t k => castTop (by first | (simp [entryFrame, mkF, argsToLocals, Value.category]; done) | rfl) k
  obtain ⟨T1, X1, e1, st1⟩ := getF X0 hx hZ hown (host := "") (Or.inl (hw _ (List.mem_of_getElem? (i := 13) rfl))) Via.refl e0 F_MESSAGE_code (g := (mkF m 1 #[.val (.ref s_MESSAGE)] [(.ref s_MESSAGE)])) rfl rfl (hb hby d1_1)
  obtain ⟨fs, hr, hrun, hended, hW, hsame⟩ := X1.leave (v := some (.int (1 : Int32))) (fun h => by rw [Bd.returns] at h; cases h)
  refine ⟨_, _, pre0 _ ?_, hrun, hended, _, _, rfl, ?_, ⟨_, rfl⟩, hW, hsame.mono (by decide) (by decide)⟩
  · show Steps p.tables e below (s₁.setTop (mkF m 0 #[.val (.ref s_MESSAGE)] [])) _
    refine XS.aloadN X0.here hx rfl (hb hby d1_0) rfl rfl ?_
    show Steps p.tables e below (s₁.setTop (mkF m 1 #[.val (.ref s_MESSAGE)] [(.ref s_MESSAGE)])) _
    refine st1 _ ?_
    show Steps p.tables e below (T1.setTop (mkF m 4 #[.val (.ref s_MESSAGE)] [(.int (77 : Int32))])) _
    refine XS.bipush X1.here hx rfl (hb hby d1_4) ?_
    show Steps p.tables e below (T1.setTop (mkF m 6 #[.val (.ref s_MESSAGE)] [(.int (64 : Int32)), (.int (77 : Int32))])) _
    refine XS.iand X1.here hx rfl (hb hby d1_6) rfl ?_
    show Steps p.tables e below (T1.setTop (mkF m 7 #[.val (.ref s_MESSAGE)] [(.int ((77 : Int32) &&& (64 : Int32)))])) _
    rw [show ((77 : Int32) &&& (64 : Int32)) = (64 : Int32) from by decide +kernel]
    show Steps p.tables e below (T1.setTop (mkF m 7 #[.val (.ref s_MESSAGE)] [(.int (64 : Int32))])) _
    refine XS.ifNo X1.here hx rfl (hb hby d1_7) rfl (by decide +kernel) ?_
    show Steps p.tables e below (T1.setTop (mkF m 10 #[.val (.ref s_MESSAGE)] [])) _
    refine XS.iconst X1.here hx rfl (hb hby d1_10) ?_
    show Steps p.tables e below (T1.setTop (mkF m 11 #[.val (.ref s_MESSAGE)] [(.int (1 : Int32))])) _
    refine XS.goto X1.here hx rfl (pc0 := 11) (pc' := 15) rfl (hb hby d1_11) (by decide) (by decide) ?_
    show Steps p.tables e below (T1.setTop (mkF m 15 #[.val (.ref s_MESSAGE)] [(.int (1 : Int32))])) _
    exact retN X1 hx (t := .boolean) Bd.returns (by simp) (hb hby d1_15) hr
  · exact ⟨rfl, N0, e1⟩
set_option maxRecDepth 65536 in
set_option maxHeartbeats 40000000 in
theorem r66 (l : Launch) (Z : State) (a0 : Array Value) (hw : ∀ d ∈ tables_1, d.before a0 Z = true) (ws : List Jvm.Cond) (h0 : Heap) (n0 : Nat) (s_NO_OP : Addr) (s_END_OF_CONSTRUCTOR : Addr) (s_ASCII_STRING : Addr) (s_BOOLEAN : Addr) (s_UNIQUE_ID : Addr) (s_SEQUENCE : Addr) (s_SET : Addr) (s_INTEGER : Addr) (s_PADDING : Addr) (s_PROPERTY_LIST : Addr) (s_DATE : Addr) (s_BIT_STRING : Addr) (t_BIT_STRING_qualifierTag : Addr) (s_PROPERTY : Addr) (s_FIELD : Addr) (t_FIELD_qualifierTag : Addr) (s_COMPRESSED : Addr) (s_ENCRYPTED : Addr) (t_ENCRYPTED_qualifierTag : Addr) (s_MESSAGE : Addr) (t_MESSAGE_qualifierTag : Addr) (s_EXTENSION : Addr) (s_VENDOR_DEFINED : Addr) (K : Ctx Z h0 s_NO_OP s_END_OF_CONSTRUCTOR s_ASCII_STRING s_BOOLEAN s_UNIQUE_ID s_SEQUENCE s_SET s_INTEGER s_PADDING s_PROPERTY_LIST s_DATE s_BIT_STRING t_BIT_STRING_qualifierTag s_PROPERTY s_FIELD t_FIELD_qualifierTag s_COMPRESSED s_ENCRYPTED t_ENCRYPTED_qualifierTag s_MESSAGE t_MESSAGE_qualifierTag s_EXTENSION s_VENDOR_DEFINED) :
    MetFree l (⟨"com/example/plainwire/plainwire/rfc806/Element", "qualifierTag", "()Ljava/lang/String;"⟩ : MethodName) (head1 (Jvm.Cond.code (⟨"com/example/plainwire/plainwire/rfc806/Element", "qualifierTag", "()Ljava/lang/String;"⟩ : MethodName) prog_101_method_10_code 1 (some (.object "java/lang/String")) :: ws) ({ frames := 0, cells := 0, slots := 0, locals := 0 } : Room)) (fun a U => a = #[(.ref s_MESSAGE)] ∧ Z.Warmed39 U.vm ∧ U.heap = h0) (fun _ _ _ _ _ => True) (fun _ U o U' => ∃ v L, o = .returned v ∧ QV (.ref t_MESSAGE_qualifierTag) h0 n0 v U'.heap L ∧ FrameEnd U o U' L ({ frames := 0, cells := 0, slots := 0, locals := 0 } : Room).cells ({ frames := 0, cells := 0, slots := 0, locals := 0 } : Room).slots) := by
  obtain ⟨S_NO_OP, F_NO_OP_code, E_NO_OP, F_NO_OP_qualifierTag, S_END_OF_CONSTRUCTOR, F_END_OF_CONSTRUCTOR_code, E_END_OF_CONSTRUCTOR, F_END_OF_CONSTRUCTOR_qualifierTag, S_ASCII_STRING, F_ASCII_STRING_code, E_ASCII_STRING, F_ASCII_STRING_qualifierTag, S_BOOLEAN, F_BOOLEAN_code, E_BOOLEAN, F_BOOLEAN_qualifierTag, S_UNIQUE_ID, F_UNIQUE_ID_code, E_UNIQUE_ID, F_UNIQUE_ID_qualifierTag, S_SEQUENCE, F_SEQUENCE_code, E_SEQUENCE, F_SEQUENCE_qualifierTag, S_SET, F_SET_code, E_SET, F_SET_qualifierTag, S_INTEGER, F_INTEGER_code, E_INTEGER, F_INTEGER_qualifierTag, S_PADDING, F_PADDING_code, E_PADDING, F_PADDING_qualifierTag, S_PROPERTY_LIST, F_PROPERTY_LIST_code, E_PROPERTY_LIST, F_PROPERTY_LIST_qualifierTag, S_DATE, F_DATE_code, E_DATE, F_DATE_qualifierTag, S_BIT_STRING, F_BIT_STRING_code, E_BIT_STRING, F_BIT_STRING_qualifierTag, S_PROPERTY, F_PROPERTY_code, E_PROPERTY, F_PROPERTY_qualifierTag, S_COMPRESSED, F_COMPRESSED_code, E_COMPRESSED, F_COMPRESSED_qualifierTag, S_ENCRYPTED, F_ENCRYPTED_code, E_ENCRYPTED, F_ENCRYPTED_qualifierTag, S_FIELD, F_FIELD_code, E_FIELD, F_FIELD_qualifierTag, S_MESSAGE, F_MESSAGE_code, E_MESSAGE, F_MESSAGE_qualifierTag, S_EXTENSION, F_EXTENSION_code, E_EXTENSION, F_EXTENSION_qualifierTag, S_VENDOR_DEFINED, F_VENDOR_DEFINED_code, E_VENDOR_DEFINED, F_VENDOR_DEFINED_qualifierTag⟩ := id K
  refine MetFree.of_bodySF (plainFor_of_name pn2) hisR ?_
  intro p e s m args below meth c s₁ Bd hml0 hP hK
  obtain ⟨rfl, hZ, hh⟩ := hP
  have hx := Bd.exec
  have hby := Bd.bytes
  have hml : c.maxLocals = 1 := hml0
  have hown : s.vm.findClass "com/example/plainwire/plainwire/rfc806/Element" = some m.cls := findClass_of_methodNamed Bd.named
  have X0 : Stand p l e ({ frames := 0, cells := 0, slots := 0, locals := 0 } : Room) s m #[(.ref s_MESSAGE)] below meth c s₁ [] 0 0 := Stand.of_body Bd
  have e0 : s₁.heap = h0 := by rw [← hh, Bd.state]; rfl
  have N0 := Fr.nil n0
  have pre0 : ∀ t, Steps p.tables e below (s₁.setTop (mkF m 0 #[.val (.ref s_MESSAGE)] [])) t → Steps p.tables e below (s₁.setTop (entryFrame m #[(.ref s_MESSAGE)] 1)) t := fun t k => castTop (by first | (simp [entryFrame, mkF, argsToLocals, Value.category]; done) | rfl) k
  obtain ⟨T1, X1, e1, st1⟩ := getF X0 hx hZ hown (host := "") (Or.inl (hw _ (List.mem_of_getElem? (i := 20) rfl))) Via.refl e0 F_MESSAGE_qualifierTag (g := (mkF m 1 #[.val (.ref s_MESSAGE)] [(.ref s_MESSAGE)])) rfl rfl (hb hby d2_1)
  obtain ⟨fs, hr, hrun, hended, hW, hsame⟩ := X1.leave (v := some (.ref t_MESSAGE_qualifierTag)) (fun h => by rw [Bd.returns] at h; cases h)
  refine ⟨_, _, pre0 _ ?_, hrun, hended, _, _, rfl, ?_, ⟨_, rfl⟩, hW, hsame.mono (by decide) (by decide)⟩
  · show Steps p.tables e below (s₁.setTop (mkF m 0 #[.val (.ref s_MESSAGE)] [])) _
    refine XS.aloadN X0.here hx rfl (hb hby d2_0) rfl rfl ?_
    show Steps p.tables e below (s₁.setTop (mkF m 1 #[.val (.ref s_MESSAGE)] [(.ref s_MESSAGE)])) _
    refine st1 _ ?_
    show Steps p.tables e below (T1.setTop (mkF m 4 #[.val (.ref s_MESSAGE)] [(.ref t_MESSAGE_qualifierTag)])) _
    exact retOut X1 hx (i := .areturn) Bd.returns rfl (Or.inr (Or.inr (Or.inr (Or.inr ⟨rfl, rfl, rfl⟩)))) (hb hby d2_4) hr
  · exact ⟨rfl, N0, e1⟩
set_option maxRecDepth 65536 in
set_option maxHeartbeats 40000000 in
theorem law_k16 (l : Launch) (Z : State) (a0 : Array Value) (hw : ∀ d ∈ tables_1, d.before a0 Z = true) (ws : List Jvm.Cond) (h0 : Heap) (n0 : Nat) (s_NO_OP : Addr) (s_END_OF_CONSTRUCTOR : Addr) (s_ASCII_STRING : Addr) (s_BOOLEAN : Addr) (s_UNIQUE_ID : Addr) (s_SEQUENCE : Addr) (s_SET : Addr) (s_INTEGER : Addr) (s_PADDING : Addr) (s_PROPERTY_LIST : Addr) (s_DATE : Addr) (s_BIT_STRING : Addr) (t_BIT_STRING_qualifierTag : Addr) (s_PROPERTY : Addr) (s_FIELD : Addr) (t_FIELD_qualifierTag : Addr) (s_COMPRESSED : Addr) (s_ENCRYPTED : Addr) (t_ENCRYPTED_qualifierTag : Addr) (s_MESSAGE : Addr) (t_MESSAGE_qualifierTag : Addr) (s_EXTENSION : Addr) (s_VENDOR_DEFINED : Addr) (K : Ctx Z h0 s_NO_OP s_END_OF_CONSTRUCTOR s_ASCII_STRING s_BOOLEAN s_UNIQUE_ID s_SEQUENCE s_SET s_INTEGER s_PADDING s_PROPERTY_LIST s_DATE s_BIT_STRING t_BIT_STRING_qualifierTag s_PROPERTY s_FIELD t_FIELD_qualifierTag s_COMPRESSED s_ENCRYPTED t_ENCRYPTED_qualifierTag s_MESSAGE t_MESSAGE_qualifierTag s_EXTENSION s_VENDOR_DEFINED) (p0 : Int32) (hp0 : ((p0 &&& (2147483647 : Int32)) % (19 : Int32)) = (16 : Int32)) :
    MetFree l x (head1 (Jvm.Cond.code x code maxLocals ret :: ws) room_1) (fun a U => a = #[(.int p0)] ∧ Z.Warmed39 U.vm ∧ U.heap = h0) (fun _ _ _ _ _ => True) (fun _ U o U' => ∃ v L, o = .returned v ∧ QV (.int (1 : Int32)) h0 n0 v U'.heap L ∧ FrameEnd U o U' L room_1.cells room_1.slots) := by
  obtain ⟨S_NO_OP, F_NO_OP_code, E_NO_OP, F_NO_OP_qualifierTag, S_END_OF_CONSTRUCTOR, F_END_OF_CONSTRUCTOR_code, E_END_OF_CONSTRUCTOR, F_END_OF_CONSTRUCTOR_qualifierTag, S_ASCII_STRING, F_ASCII_STRING_code, E_ASCII_STRING, F_ASCII_STRING_qualifierTag, S_BOOLEAN, F_BOOLEAN_code, E_BOOLEAN, F_BOOLEAN_qualifierTag, S_UNIQUE_ID, F_UNIQUE_ID_code, E_UNIQUE_ID, F_UNIQUE_ID_qualifierTag, S_SEQUENCE, F_SEQUENCE_code, E_SEQUENCE, F_SEQUENCE_qualifierTag, S_SET, F_SET_code, E_SET, F_SET_qualifierTag, S_INTEGER, F_INTEGER_code, E_INTEGER, F_INTEGER_qualifierTag, S_PADDING, F_PADDING_code, E_PADDING, F_PADDING_qualifierTag, S_PROPERTY_LIST, F_PROPERTY_LIST_code, E_PROPERTY_LIST, F_PROPERTY_LIST_qualifierTag, S_DATE, F_DATE_code, E_DATE, F_DATE_qualifierTag, S_BIT_STRING, F_BIT_STRING_code, E_BIT_STRING, F_BIT_STRING_qualifierTag, S_PROPERTY, F_PROPERTY_code, E_PROPERTY, F_PROPERTY_qualifierTag, S_COMPRESSED, F_COMPRESSED_code, E_COMPRESSED, F_COMPRESSED_qualifierTag, S_ENCRYPTED, F_ENCRYPTED_code, E_ENCRYPTED, F_ENCRYPTED_qualifierTag, S_FIELD, F_FIELD_code, E_FIELD, F_FIELD_qualifierTag, S_MESSAGE, F_MESSAGE_code, E_MESSAGE, F_MESSAGE_qualifierTag, S_EXTENSION, F_EXTENSION_code, E_EXTENSION, F_EXTENSION_qualifierTag, S_VENDOR_DEFINED, F_VENDOR_DEFINED_code, E_VENDOR_DEFINED, F_VENDOR_DEFINED_qualifierTag⟩ := id K
  refine MetFree.of_bodySF (plainFor_of_name pn3) hisR ?_
  intro p e s m args below meth c s₁ Bd hml0 hP hK
  obtain ⟨rfl, hZ, hh⟩ := hP
  have hx := Bd.exec
  have hby := Bd.bytes
  have hml : c.maxLocals = 6 := hml0
  have hown : s.vm.findClass "com/example/plainwire/plainwire/rfc806/ElementQualifiedPinLaw" = some m.cls := findClass_of_methodNamed Bd.named
  have X0 : Stand p l e room_1 s m #[(.int p0)] below meth c s₁ [] 0 0 := Stand.of_body Bd
  have e0 : s₁.heap = h0 := by rw [← hh, Bd.state]; rfl
  have N0 := Fr.nil n0
  have pre0 : ∀ t, Steps p.tables e below (s₁.setTop (mkF m 0 #[.val (.int p0), .unset, .unset, .unset, .unset, .unset] [])) t → Steps p.tables e below (s₁.setTop (entryFrame m #[(.int p0)] maxLocals)) t := fun t k => castTop (by first | (simp [entryFrame, mkF, argsToLocals, Value.category, maxLocals]; done) | rfl) k
  obtain ⟨_, _, ⟨T1, L1, k1, n1⟩, -, X1, ⟨Lc1, hQ1, l1, y1, z1⟩, st1⟩ := Jvm.LawKit.callS X0 hx (y := (⟨"com/example/plainwire/plainwire/rfc806/ElementQualifiedPinLaw", "pick", "(I)Lcom/example/plainwire/plainwire/rfc806/Element;"⟩ : MethodName)) hown (mvT hZ (hw _ (List.mem_of_getElem? (i := 1) rfl))) (mvT hZ (hw _ (List.mem_of_getElem? (i := 2) rfl))) (mvT hZ (hw _ (List.mem_of_getElem? (i := 3) rfl))) (mvT hZ (hw _ (List.mem_of_getElem? (i := 4) rfl))) (by decide) (backOf (W := 0) (r64 l Z a0 hw [] h0 n0 s_NO_OP s_END_OF_CONSTRUCTOR s_ASCII_STRING s_BOOLEAN s_UNIQUE_ID s_SEQUENCE s_SET s_INTEGER s_PADDING s_PROPERTY_LIST s_DATE s_BIT_STRING t_BIT_STRING_qualifierTag s_PROPERTY s_FIELD t_FIELD_qualifierTag s_COMPRESSED s_ENCRYPTED t_ENCRYPTED_qualifierTag s_MESSAGE t_MESSAGE_qualifierTag s_EXTENSION s_VENDOR_DEFINED K) hZ (hw _ (List.mem_of_getElem? (i := 4) rfl)) (hw _ (List.mem_of_getElem? (i := 3) rfl)) (by decide) (by decide)) (g := (mkF m 9 #[.val (.int p0), .val (.int (16 : Int32)), .unset, .unset, .unset, .unset] [(.int (16 : Int32))])) rfl (by rw [hml]; rfl) (argsL := [(.int (16 : Int32))]) (rest := []) (lenOf pd0 rfl) rfl (by show 2 * 0 + _ ≤ _; exact Nat.le_of_eq rfl) (hb hby at_9) (fun _ _ => ⟨rfl, e0, (by decide : 0 + 0 ≤ _), (by decide : 0 + 0 ≤ _)⟩)
  dsimp only [Pt.U, Pt.locs, Pt.cells, Pt.slots] at X1 l1 y1 z1 st1 hQ1
  subst l1 y1 z1
  obtain ⟨rfl, N1q, e1⟩ := hQ1
  have N1 := Fr.app N0 N1q
  obtain ⟨cq2, kq2, q2a, q2b, q2c⟩ := isOf hZ e1 E_MESSAGE
  obtain ⟨_, _, ⟨T2, L2, k2, n2⟩, -, X2, ⟨Lc2, hQ2, l2, y2, z2⟩, st2⟩ := X1.virtualBack hx (y := (⟨"com/example/plainwire/plainwire/rfc806/Element", "qualified", "()Z"⟩ : MethodName)) (z := (⟨"com/example/plainwire/plainwire/rfc806/Element", "qualified", "()Z"⟩ : MethodName)) hown (mvT hZ (hw _ (List.mem_of_getElem? (i := 8) rfl))) (mvT hZ (hw _ (List.mem_of_getElem? (i := 9) rfl))) (notFace_of_selects (args := #[]) (mvT hZ (hw _ (List.mem_of_getElem? (i := 11) rfl)))) (mvT hZ (hw _ (List.mem_of_getElem? (i := 11) rfl))) (mvT hZ (hw _ (List.mem_of_getElem? (i := 10) rfl))) (by decide) (backOf (W := 0) (r65 l Z a0 hw [] h0 n0 s_NO_OP s_END_OF_CONSTRUCTOR s_ASCII_STRING s_BOOLEAN s_UNIQUE_ID s_SEQUENCE s_SET s_INTEGER s_PADDING s_PROPERTY_LIST s_DATE s_BIT_STRING t_BIT_STRING_qualifierTag s_PROPERTY s_FIELD t_FIELD_qualifierTag s_COMPRESSED s_ENCRYPTED t_ENCRYPTED_qualifierTag s_MESSAGE t_MESSAGE_qualifierTag s_EXTENSION s_VENDOR_DEFINED K) hZ (hw _ (List.mem_of_getElem? (i := 12) rfl)) (hw _ (List.mem_of_getElem? (i := 6) rfl)) (by decide) (by decide)) q2a q2c (g := (mkF m 26 #[.val (.int p0), .val (.int (16 : Int32)), .val (.ref s_MESSAGE), .val (.int (1 : Int32)), .unset, .unset] [(.ref s_MESSAGE)])) rfl (by rw [hml]; rfl) (Steps.refl _) (argsL := []) (rest := []) (lenOf pd1 rfl) rfl (by show 2 * 0 + _ ≤ _; exact Nat.le_of_eq rfl) (hb hby at_26) (fun _ _ => ⟨rfl, e1, (by decide : 0 + 0 ≤ _), (by decide : 0 + 0 ≤ _)⟩)
  dsimp only [Pt.U, Pt.locs, Pt.cells, Pt.slots] at X2 l2 y2 z2 st2 hQ2
  subst l2 y2 z2
  obtain ⟨rfl, N2q, e2⟩ := hQ2
  have N2 := Fr.app N1 N2q
  obtain ⟨cq3, kq3, q3a, q3b, q3c⟩ := isOf hZ e2 E_MESSAGE
  obtain ⟨_, _, ⟨T3, L3, k3, n3⟩, -, X3, ⟨Lc3, hQ3, l3, y3, z3⟩, st3⟩ := X2.virtualBack hx (y := (⟨"com/example/plainwire/plainwire/rfc806/Element", "qualifierTag", "()Ljava/lang/String;"⟩ : MethodName)) (z := (⟨"com/example/plainwire/plainwire/rfc806/Element", "qualifierTag", "()Ljava/lang/String;"⟩ : MethodName)) hown (mvT hZ (hw _ (List.mem_of_getElem? (i := 15) rfl))) (mvT hZ (hw _ (List.mem_of_getElem? (i := 16) rfl))) (notFace_of_selects (args := #[]) (mvT hZ (hw _ (List.mem_of_getElem? (i := 18) rfl)))) (mvT hZ (hw _ (List.mem_of_getElem? (i := 18) rfl))) (mvT hZ (hw _ (List.mem_of_getElem? (i := 17) rfl))) (by decide) (backOf (W := 0) (r66 l Z a0 hw [] h0 n0 s_NO_OP s_END_OF_CONSTRUCTOR s_ASCII_STRING s_BOOLEAN s_UNIQUE_ID s_SEQUENCE s_SET s_INTEGER s_PADDING s_PROPERTY_LIST s_DATE s_BIT_STRING t_BIT_STRING_qualifierTag s_PROPERTY s_FIELD t_FIELD_qualifierTag s_COMPRESSED s_ENCRYPTED t_ENCRYPTED_qualifierTag s_MESSAGE t_MESSAGE_qualifierTag s_EXTENSION s_VENDOR_DEFINED K) hZ (hw _ (List.mem_of_getElem? (i := 19) rfl)) (hw _ (List.mem_of_getElem? (i := 6) rfl)) (by decide) (by decide)) q3a q3c (g := (mkF m 32 #[.val (.int p0), .val (.int (16 : Int32)), .val (.ref s_MESSAGE), .val (.int (1 : Int32)), .val (.int (1 : Int32)), .unset] [(.ref s_MESSAGE)])) rfl (by rw [hml]; rfl) (Steps.refl _) (argsL := []) (rest := []) (lenOf pd2 rfl) rfl (by show 2 * 0 + _ ≤ _; exact Nat.le_of_eq rfl) (hb hby at_32) (fun _ _ => ⟨rfl, e2, (by decide : 0 + 0 ≤ _), (by decide : 0 + 0 ≤ _)⟩)
  dsimp only [Pt.U, Pt.locs, Pt.cells, Pt.slots] at X3 l3 y3 z3 st3 hQ3
  subst l3 y3 z3
  obtain ⟨rfl, N3q, e3⟩ := hQ3
  have N3 := Fr.app N2 N3q
  obtain ⟨fs, hr, hrun, hended, hW, hsame⟩ := X3.leave (v := some (.int (1 : Int32))) (fun h => by rw [Bd.returns] at h; cases h)
  refine ⟨_, _, pre0 _ ?_, hrun, hended, _, _, rfl, ?_, ⟨_, rfl⟩, hW, hsame.mono (by decide) (by decide)⟩
  · show Steps p.tables e below (s₁.setTop (mkF m 0 #[.val (.int p0), .unset, .unset, .unset, .unset, .unset] [])) _
    refine XS.iloadN X0.here hx rfl (hb hby at_0) rfl ?_
    show Steps p.tables e below (s₁.setTop (mkF m 1 #[.val (.int p0), .unset, .unset, .unset, .unset, .unset] [(.int p0)])) _
    refine X0.ldcInt hx hown (mvT hZ (hw _ (List.mem_of_getElem? (i := 0) rfl))) (g := (mkF m 1 #[.val (.int p0), .unset, .unset, .unset, .unset, .unset] [(.int p0)])) rfl (hb hby at_1) _ ?_
    show Steps p.tables e below (s₁.setTop (mkF m 3 #[.val (.int p0), .unset, .unset, .unset, .unset, .unset] [(.int (2147483647 : Int32)), (.int p0)])) _
    refine XS.iand X0.here hx rfl (hb hby at_3) rfl ?_
    show Steps p.tables e below (s₁.setTop (mkF m 4 #[.val (.int p0), .unset, .unset, .unset, .unset, .unset] [(.int (p0 &&& (2147483647 : Int32)))])) _
    refine XS.bipush X0.here hx rfl (hb hby at_4) ?_
    show Steps p.tables e below (s₁.setTop (mkF m 6 #[.val (.int p0), .unset, .unset, .unset, .unset, .unset] [(.int (19 : Int32)), (.int (p0 &&& (2147483647 : Int32)))])) _
    refine Jvm.RoadKit.iremM X0 hx rfl (hb hby at_6) rfl (by decide) ?_
    show Steps p.tables e below (s₁.setTop (mkF m 7 #[.val (.int p0), .unset, .unset, .unset, .unset, .unset] [(.int ((p0 &&& (2147483647 : Int32)) % (19 : Int32)))])) _
    rw [hp0]
    show Steps p.tables e below (s₁.setTop (mkF m 7 #[.val (.int p0), .unset, .unset, .unset, .unset, .unset] [(.int (16 : Int32))])) _
    refine XS.istoreN X0.here hx rfl (hb hby at_7) rfl (l' := #[.val (.int p0), .val (.int (16 : Int32)), .unset, .unset, .unset, .unset]) rfl ?_
    show Steps p.tables e below (s₁.setTop (mkF m 8 #[.val (.int p0), .val (.int (16 : Int32)), .unset, .unset, .unset, .unset] [])) _
    refine XS.iloadN X0.here hx rfl (hb hby at_8) rfl ?_
    show Steps p.tables e below (s₁.setTop (mkF m 9 #[.val (.int p0), .val (.int (16 : Int32)), .unset, .unset, .unset, .unset] [(.int (16 : Int32))])) _
    refine st1 _ ?_
    show Steps p.tables e below (T1.setTop (mkF m 12 #[.val (.int p0), .val (.int (16 : Int32)), .unset, .unset, .unset, .unset] [(.ref s_MESSAGE)])) _
    refine XS.astoreN X1.here hx rfl (hb hby at_12) rfl rfl (l' := #[.val (.int p0), .val (.int (16 : Int32)), .val (.ref s_MESSAGE), .unset, .unset, .unset]) rfl ?_
    show Steps p.tables e below (T1.setTop (mkF m 13 #[.val (.int p0), .val (.int (16 : Int32)), .val (.ref s_MESSAGE), .unset, .unset, .unset] [])) _
    refine XS.iloadN X1.here hx rfl (hb hby at_13) rfl ?_
    show Steps p.tables e below (T1.setTop (mkF m 14 #[.val (.int p0), .val (.int (16 : Int32)), .val (.ref s_MESSAGE), .unset, .unset, .unset] [(.int (16 : Int32))])) _
    refine XS.bipush X1.here hx rfl (hb hby at_14) ?_
    show Steps p.tables e below (T1.setTop (mkF m 16 #[.val (.int p0), .val (.int (16 : Int32)), .val (.ref s_MESSAGE), .unset, .unset, .unset] [(.int (11 : Int32)), (.int (16 : Int32))])) _
    refine XS.icmpNo X1.here hx rfl (hb hby at_16) rfl (by decide +kernel) ?_
    show Steps p.tables e below (T1.setTop (mkF m 19 #[.val (.int p0), .val (.int (16 : Int32)), .val (.ref s_MESSAGE), .unset, .unset, .unset] [])) _
    refine XS.iconst X1.here hx rfl (hb hby at_19) ?_
    show Steps p.tables e below (T1.setTop (mkF m 20 #[.val (.int p0), .val (.int (16 : Int32)), .val (.ref s_MESSAGE), .unset, .unset, .unset] [(.int (1 : Int32))])) _
    refine XS.goto X1.here hx rfl (pc0 := 20) (pc' := 24) rfl (hb hby at_20) (by decide) (by decide) ?_
    show Steps p.tables e below (T1.setTop (mkF m 24 #[.val (.int p0), .val (.int (16 : Int32)), .val (.ref s_MESSAGE), .unset, .unset, .unset] [(.int (1 : Int32))])) _
    refine XS.istoreN X1.here hx rfl (hb hby at_24) rfl (l' := #[.val (.int p0), .val (.int (16 : Int32)), .val (.ref s_MESSAGE), .val (.int (1 : Int32)), .unset, .unset]) rfl ?_
    show Steps p.tables e below (T1.setTop (mkF m 25 #[.val (.int p0), .val (.int (16 : Int32)), .val (.ref s_MESSAGE), .val (.int (1 : Int32)), .unset, .unset] [])) _
    refine XS.aloadN X1.here hx rfl (hb hby at_25) rfl rfl ?_
    show Steps p.tables e below (T1.setTop (mkF m 26 #[.val (.int p0), .val (.int (16 : Int32)), .val (.ref s_MESSAGE), .val (.int (1 : Int32)), .unset, .unset] [(.ref s_MESSAGE)])) _
    refine st2.trans ?_
    show Steps p.tables e below (T2.setTop (mkF m 29 #[.val (.int p0), .val (.int (16 : Int32)), .val (.ref s_MESSAGE), .val (.int (1 : Int32)), .unset, .unset] [(.int (1 : Int32))])) _
    refine XS.istore X2.here hx rfl (hb hby at_29) rfl (l' := #[.val (.int p0), .val (.int (16 : Int32)), .val (.ref s_MESSAGE), .val (.int (1 : Int32)), .val (.int (1 : Int32)), .unset]) rfl ?_
    show Steps p.tables e below (T2.setTop (mkF m 31 #[.val (.int p0), .val (.int (16 : Int32)), .val (.ref s_MESSAGE), .val (.int (1 : Int32)), .val (.int (1 : Int32)), .unset] [])) _
    refine XS.aloadN X2.here hx rfl (hb hby at_31) rfl rfl ?_
    show Steps p.tables e below (T2.setTop (mkF m 32 #[.val (.int p0), .val (.int (16 : Int32)), .val (.ref s_MESSAGE), .val (.int (1 : Int32)), .val (.int (1 : Int32)), .unset] [(.ref s_MESSAGE)])) _
    refine st3.trans ?_
    show Steps p.tables e below (T3.setTop (mkF m 35 #[.val (.int p0), .val (.int (16 : Int32)), .val (.ref s_MESSAGE), .val (.int (1 : Int32)), .val (.int (1 : Int32)), .unset] [(.ref t_MESSAGE_qualifierTag)])) _
    refine XS.ifnullNo X3.here hx rfl (hb hby at_35) rfl ?_
    show Steps p.tables e below (T3.setTop (mkF m 38 #[.val (.int p0), .val (.int (16 : Int32)), .val (.ref s_MESSAGE), .val (.int (1 : Int32)), .val (.int (1 : Int32)), .unset] [])) _
    refine XS.iconst X3.here hx rfl (hb hby at_38) ?_
    show Steps p.tables e below (T3.setTop (mkF m 39 #[.val (.int p0), .val (.int (16 : Int32)), .val (.ref s_MESSAGE), .val (.int (1 : Int32)), .val (.int (1 : Int32)), .unset] [(.int (1 : Int32))])) _
    refine XS.goto X3.here hx rfl (pc0 := 39) (pc' := 43) rfl (hb hby at_39) (by decide) (by decide) ?_
    show Steps p.tables e below (T3.setTop (mkF m 43 #[.val (.int p0), .val (.int (16 : Int32)), .val (.ref s_MESSAGE), .val (.int (1 : Int32)), .val (.int (1 : Int32)), .unset] [(.int (1 : Int32))])) _
    refine XS.istore X3.here hx rfl (hb hby at_43) rfl (l' := #[.val (.int p0), .val (.int (16 : Int32)), .val (.ref s_MESSAGE), .val (.int (1 : Int32)), .val (.int (1 : Int32)), .val (.int (1 : Int32))]) rfl ?_
    show Steps p.tables e below (T3.setTop (mkF m 45 #[.val (.int p0), .val (.int (16 : Int32)), .val (.ref s_MESSAGE), .val (.int (1 : Int32)), .val (.int (1 : Int32)), .val (.int (1 : Int32))] [])) _
    refine XS.iload X3.here hx rfl (hb hby at_45) rfl ?_
    show Steps p.tables e below (T3.setTop (mkF m 47 #[.val (.int p0), .val (.int (16 : Int32)), .val (.ref s_MESSAGE), .val (.int (1 : Int32)), .val (.int (1 : Int32)), .val (.int (1 : Int32))] [(.int (1 : Int32))])) _
    refine XS.iloadN X3.here hx rfl (hb hby at_47) rfl ?_
    show Steps p.tables e below (T3.setTop (mkF m 48 #[.val (.int p0), .val (.int (16 : Int32)), .val (.ref s_MESSAGE), .val (.int (1 : Int32)), .val (.int (1 : Int32)), .val (.int (1 : Int32))] [(.int (1 : Int32)), (.int (1 : Int32))])) _
    refine XS.icmpNo X3.here hx rfl (hb hby at_48) rfl (by decide +kernel) ?_
    show Steps p.tables e below (T3.setTop (mkF m 51 #[.val (.int p0), .val (.int (16 : Int32)), .val (.ref s_MESSAGE), .val (.int (1 : Int32)), .val (.int (1 : Int32)), .val (.int (1 : Int32))] [])) _
    refine XS.iload X3.here hx rfl (hb hby at_51) rfl ?_
    show Steps p.tables e below (T3.setTop (mkF m 53 #[.val (.int p0), .val (.int (16 : Int32)), .val (.ref s_MESSAGE), .val (.int (1 : Int32)), .val (.int (1 : Int32)), .val (.int (1 : Int32))] [(.int (1 : Int32))])) _
    refine XS.iload X3.here hx rfl (hb hby at_53) rfl ?_
    show Steps p.tables e below (T3.setTop (mkF m 55 #[.val (.int p0), .val (.int (16 : Int32)), .val (.ref s_MESSAGE), .val (.int (1 : Int32)), .val (.int (1 : Int32)), .val (.int (1 : Int32))] [(.int (1 : Int32)), (.int (1 : Int32))])) _
    refine XS.icmpNo X3.here hx rfl (hb hby at_55) rfl (by decide +kernel) ?_
    show Steps p.tables e below (T3.setTop (mkF m 58 #[.val (.int p0), .val (.int (16 : Int32)), .val (.ref s_MESSAGE), .val (.int (1 : Int32)), .val (.int (1 : Int32)), .val (.int (1 : Int32))] [])) _
    refine XS.iconst X3.here hx rfl (hb hby at_58) ?_
    show Steps p.tables e below (T3.setTop (mkF m 59 #[.val (.int p0), .val (.int (16 : Int32)), .val (.ref s_MESSAGE), .val (.int (1 : Int32)), .val (.int (1 : Int32)), .val (.int (1 : Int32))] [(.int (1 : Int32))])) _
    refine XS.goto X3.here hx rfl (pc0 := 59) (pc' := 63) rfl (hb hby at_59) (by decide) (by decide) ?_
    show Steps p.tables e below (T3.setTop (mkF m 63 #[.val (.int p0), .val (.int (16 : Int32)), .val (.ref s_MESSAGE), .val (.int (1 : Int32)), .val (.int (1 : Int32)), .val (.int (1 : Int32))] [(.int (1 : Int32))])) _
    exact retN X3 hx (t := .boolean) Bd.returns (by simp) (hb hby at_63) hr
  · exact ⟨rfl, N3, e3⟩
set_option maxRecDepth 65536 in
set_option maxHeartbeats 40000000 in
theorem r68 (l : Launch) (Z : State) (a0 : Array Value) (hw : ∀ d ∈ tables_1, d.before a0 Z = true) (ws : List Jvm.Cond) (h0 : Heap) (n0 : Nat) (s_NO_OP : Addr) (s_END_OF_CONSTRUCTOR : Addr) (s_ASCII_STRING : Addr) (s_BOOLEAN : Addr) (s_UNIQUE_ID : Addr) (s_SEQUENCE : Addr) (s_SET : Addr) (s_INTEGER : Addr) (s_PADDING : Addr) (s_PROPERTY_LIST : Addr) (s_DATE : Addr) (s_BIT_STRING : Addr) (t_BIT_STRING_qualifierTag : Addr) (s_PROPERTY : Addr) (s_FIELD : Addr) (t_FIELD_qualifierTag : Addr) (s_COMPRESSED : Addr) (s_ENCRYPTED : Addr) (t_ENCRYPTED_qualifierTag : Addr) (s_MESSAGE : Addr) (t_MESSAGE_qualifierTag : Addr) (s_EXTENSION : Addr) (s_VENDOR_DEFINED : Addr) (K : Ctx Z h0 s_NO_OP s_END_OF_CONSTRUCTOR s_ASCII_STRING s_BOOLEAN s_UNIQUE_ID s_SEQUENCE s_SET s_INTEGER s_PADDING s_PROPERTY_LIST s_DATE s_BIT_STRING t_BIT_STRING_qualifierTag s_PROPERTY s_FIELD t_FIELD_qualifierTag s_COMPRESSED s_ENCRYPTED t_ENCRYPTED_qualifierTag s_MESSAGE t_MESSAGE_qualifierTag s_EXTENSION s_VENDOR_DEFINED) :
    MetFree l (⟨"com/example/plainwire/plainwire/rfc806/ElementQualifiedPinLaw", "pick", "(I)Lcom/example/plainwire/plainwire/rfc806/Element;"⟩ : MethodName) (head1 (Jvm.Cond.code (⟨"com/example/plainwire/plainwire/rfc806/ElementQualifiedPinLaw", "pick", "(I)Lcom/example/plainwire/plainwire/rfc806/Element;"⟩ : MethodName) method_2_code 1 (some (.object "com/example/plainwire/plainwire/rfc806/Element")) :: ws) ({ frames := 0, cells := 0, slots := 0, locals := 0 } : Room)) (fun a U => a = #[(.int (17 : Int32))] ∧ Z.Warmed39 U.vm ∧ U.heap = h0) (fun _ _ _ _ _ => True) (fun _ U o U' => ∃ v L, o = .returned v ∧ QV (.ref s_EXTENSION) h0 n0 v U'.heap L ∧ FrameEnd U o U' L ({ frames := 0, cells := 0, slots := 0, locals := 0 } : Room).cells ({ frames := 0, cells := 0, slots := 0, locals := 0 } : Room).slots) := by
  obtain ⟨S_NO_OP, F_NO_OP_code, E_NO_OP, F_NO_OP_qualifierTag, S_END_OF_CONSTRUCTOR, F_END_OF_CONSTRUCTOR_code, E_END_OF_CONSTRUCTOR, F_END_OF_CONSTRUCTOR_qualifierTag, S_ASCII_STRING, F_ASCII_STRING_code, E_ASCII_STRING, F_ASCII_STRING_qualifierTag, S_BOOLEAN, F_BOOLEAN_code, E_BOOLEAN, F_BOOLEAN_qualifierTag, S_UNIQUE_ID, F_UNIQUE_ID_code, E_UNIQUE_ID, F_UNIQUE_ID_qualifierTag, S_SEQUENCE, F_SEQUENCE_code, E_SEQUENCE, F_SEQUENCE_qualifierTag, S_SET, F_SET_code, E_SET, F_SET_qualifierTag, S_INTEGER, F_INTEGER_code, E_INTEGER, F_INTEGER_qualifierTag, S_PADDING, F_PADDING_code, E_PADDING, F_PADDING_qualifierTag, S_PROPERTY_LIST, F_PROPERTY_LIST_code, E_PROPERTY_LIST, F_PROPERTY_LIST_qualifierTag, S_DATE, F_DATE_code, E_DATE, F_DATE_qualifierTag, S_BIT_STRING, F_BIT_STRING_code, E_BIT_STRING, F_BIT_STRING_qualifierTag, S_PROPERTY, F_PROPERTY_code, E_PROPERTY, F_PROPERTY_qualifierTag, S_COMPRESSED, F_COMPRESSED_code, E_COMPRESSED, F_COMPRESSED_qualifierTag, S_ENCRYPTED, F_ENCRYPTED_code, E_ENCRYPTED, F_ENCRYPTED_qualifierTag, S_FIELD, F_FIELD_code, E_FIELD, F_FIELD_qualifierTag, S_MESSAGE, F_MESSAGE_code, E_MESSAGE, F_MESSAGE_qualifierTag, S_EXTENSION, F_EXTENSION_code, E_EXTENSION, F_EXTENSION_qualifierTag, S_VENDOR_DEFINED, F_VENDOR_DEFINED_code, E_VENDOR_DEFINED, F_VENDOR_DEFINED_qualifierTag⟩ := id K
  refine MetFree.of_bodySF (plainFor_of_name pn0) hisR ?_
  intro p e s m args below meth c s₁ Bd hml0 hP hK
  obtain ⟨rfl, hZ, hh⟩ := hP
  have hx := Bd.exec
  have hby := Bd.bytes
  have hml : c.maxLocals = 1 := hml0
  have hown : s.vm.findClass "com/example/plainwire/plainwire/rfc806/ElementQualifiedPinLaw" = some m.cls := findClass_of_methodNamed Bd.named
  have X0 : Stand p l e ({ frames := 0, cells := 0, slots := 0, locals := 0 } : Room) s m #[(.int (17 : Int32))] below meth c s₁ [] 0 0 := Stand.of_body Bd
  have e0 : s₁.heap = h0 := by rw [← hh, Bd.state]; rfl
  have N0 := Fr.nil n0
  have pre0 : ∀ t, Steps p.tables e below (s₁.setTop (mkF m 0 #[.val (.int (17 : Int32))] [])) t → Steps p.tables e below (s₁.setTop (entryFrame m #[(.int (17 : Int32))] 1)) t := fun t k => castTop (by first | (simp [entryFrame, mkF, argsToLocals, Value.category]; done) | rfl) k
  obtain ⟨T1, X1, e1, st1⟩ := getS X0 hx hZ hown (host := "") (hw _ (List.mem_of_getElem? (i := 28) rfl)) Via.refl e0 S_EXTENSION (g := (mkF m 169 #[.val (.int (17 : Int32))] [])) rfl (hb hby d0_169)
  obtain ⟨fs, hr, hrun, hended, hW, hsame⟩ := X1.leave (v := some (.ref s_EXTENSION)) (fun h => by rw [Bd.returns] at h; cases h)
  refine ⟨_, _, pre0 _ ?_, hrun, hended, _, _, rfl, ?_, ⟨_, rfl⟩, hW, hsame.mono (by decide) (by decide)⟩
  · show Steps p.tables e below (s₁.setTop (mkF m 0 #[.val (.int (17 : Int32))] [])) _
    refine XS.iloadN X0.here hx rfl (hb hby d0_0) rfl ?_
    show Steps p.tables e below (s₁.setTop (mkF m 1 #[.val (.int (17 : Int32))] [(.int (17 : Int32))])) _
    refine XS.ifYes X0.here hx rfl (pc0 := 1) (pc' := 8) rfl (hb hby d0_1) rfl (by decide +kernel) (by decide) (by decide) ?_
    show Steps p.tables e below (s₁.setTop (mkF m 8 #[.val (.int (17 : Int32))] [])) _
    refine XS.iloadN X0.here hx rfl (hb hby d0_8) rfl ?_
    show Steps p.tables e below (s₁.setTop (mkF m 9 #[.val (.int (17 : Int32))] [(.int (17 : Int32))])) _
    refine XS.iconst X0.here hx rfl (hb hby d0_9) ?_
    show Steps p.tables e below (s₁.setTop (mkF m 10 #[.val (.int (17 : Int32))] [(.int (1 : Int32)), (.int (17 : Int32))])) _
    refine XS.icmpYes X0.here hx rfl (pc0 := 10) (pc' := 17) rfl (hb hby d0_10) rfl (by decide +kernel) (by decide) (by decide) ?_
    show Steps p.tables e below (s₁.setTop (mkF m 17 #[.val (.int (17 : Int32))] [])) _
    refine XS.iloadN X0.here hx rfl (hb hby d0_17) rfl ?_
    show Steps p.tables e below (s₁.setTop (mkF m 18 #[.val (.int (17 : Int32))] [(.int (17 : Int32))])) _
    refine XS.iconst X0.here hx rfl (hb hby d0_18) ?_
    show Steps p.tables e below (s₁.setTop (mkF m 19 #[.val (.int (17 : Int32))] [(.int (2 : Int32)), (.int (17 : Int32))])) _
    refine XS.icmpYes X0.here hx rfl (pc0 := 19) (pc' := 26) rfl (hb hby d0_19) rfl (by decide +kernel) (by decide) (by decide) ?_
    show Steps p.tables e below (s₁.setTop (mkF m 26 #[.val (.int (17 : Int32))] [])) _
    refine XS.iloadN X0.here hx rfl (hb hby d0_26) rfl ?_
    show Steps p.tables e below (s₁.setTop (mkF m 27 #[.val (.int (17 : Int32))] [(.int (17 : Int32))])) _
    refine XS.iconst X0.here hx rfl (hb hby d0_27) ?_
    show Steps p.tables e below (s₁.setTop (mkF m 28 #[.val (.int (17 : Int32))] [(.int (3 : Int32)), (.int (17 : Int32))])) _
    refine XS.icmpYes X0.here hx rfl (pc0 := 28) (pc' := 35) rfl (hb hby d0_28) rfl (by decide +kernel) (by decide) (by decide) ?_
    show Steps p.tables e below (s₁.setTop (mkF m 35 #[.val (.int (17 : Int32))] [])) _
    refine XS.iloadN X0.here hx rfl (hb hby d0_35) rfl ?_
    show Steps p.tables e below (s₁.setTop (mkF m 36 #[.val (.int (17 : Int32))] [(.int (17 : Int32))])) _
    refine XS.iconst X0.here hx rfl (hb hby d0_36) ?_
    show Steps p.tables e below (s₁.setTop (mkF m 37 #[.val (.int (17 : Int32))] [(.int (4 : Int32)), (.int (17 : Int32))])) _
    refine XS.icmpYes X0.here hx rfl (pc0 := 37) (pc' := 44) rfl (hb hby d0_37) rfl (by decide +kernel) (by decide) (by decide) ?_
    show Steps p.tables e below (s₁.setTop (mkF m 44 #[.val (.int (17 : Int32))] [])) _
    refine XS.iloadN X0.here hx rfl (hb hby d0_44) rfl ?_
    show Steps p.tables e below (s₁.setTop (mkF m 45 #[.val (.int (17 : Int32))] [(.int (17 : Int32))])) _
    refine XS.iconst X0.here hx rfl (hb hby d0_45) ?_
    show Steps p.tables e below (s₁.setTop (mkF m 46 #[.val (.int (17 : Int32))] [(.int (5 : Int32)), (.int (17 : Int32))])) _
    refine XS.icmpYes X0.here hx rfl (pc0 := 46) (pc' := 53) rfl (hb hby d0_46) rfl (by decide +kernel) (by decide) (by decide) ?_
    show Steps p.tables e below (s₁.setTop (mkF m 53 #[.val (.int (17 : Int32))] [])) _
    refine XS.iloadN X0.here hx rfl (hb hby d0_53) rfl ?_
    show Steps p.tables e below (s₁.setTop (mkF m 54 #[.val (.int (17 : Int32))] [(.int (17 : Int32))])) _
    refine XS.bipush X0.here hx rfl (hb hby d0_54) ?_
    show Steps p.tables e below (s₁.setTop (mkF m 56 #[.val (.int (17 : Int32))] [(.int (6 : Int32)), (.int (17 : Int32))])) _
    refine XS.icmpYes X0.here hx rfl (pc0 := 56) (pc' := 63) rfl (hb hby d0_56) rfl (by decide +kernel) (by decide) (by decide) ?_
    show Steps p.tables e below (s₁.setTop (mkF m 63 #[.val (.int (17 : Int32))] [])) _
    refine XS.iloadN X0.here hx rfl (hb hby d0_63) rfl ?_
    show Steps p.tables e below (s₁.setTop (mkF m 64 #[.val (.int (17 : Int32))] [(.int (17 : Int32))])) _
    refine XS.bipush X0.here hx rfl (hb hby d0_64) ?_
    show Steps p.tables e below (s₁.setTop (mkF m 66 #[.val (.int (17 : Int32))] [(.int (7 : Int32)), (.int (17 : Int32))])) _
    refine XS.icmpYes X0.here hx rfl (pc0 := 66) (pc' := 73) rfl (hb hby d0_66) rfl (by decide +kernel) (by decide) (by decide) ?_
    show Steps p.tables e below (s₁.setTop (mkF m 73 #[.val (.int (17 : Int32))] [])) _
    refine XS.iloadN X0.here hx rfl (hb hby d0_73) rfl ?_
    show Steps p.tables e below (s₁.setTop (mkF m 74 #[.val (.int (17 : Int32))] [(.int (17 : Int32))])) _
    refine XS.bipush X0.here hx rfl (hb hby d0_74) ?_
    show Steps p.tables e below (s₁.setTop (mkF m 76 #[.val (.int (17 : Int32))] [(.int (8 : Int32)), (.int (17 : Int32))])) _
    refine XS.icmpYes X0.here hx rfl (pc0 := 76) (pc' := 83) rfl (hb hby d0_76) rfl (by decide +kernel) (by decide) (by decide) ?_
    show Steps p.tables e below (s₁.setTop (mkF m 83 #[.val (.int (17 : Int32))] [])) _
    refine XS.iloadN X0.here hx rfl (hb hby d0_83) rfl ?_
    show Steps p.tables e below (s₁.setTop (mkF m 84 #[.val (.int (17 : Int32))] [(.int (17 : Int32))])) _
    refine XS.bipush X0.here hx rfl (hb hby d0_84) ?_
    show Steps p.tables e below (s₁.setTop (mkF m 86 #[.val (.int (17 : Int32))] [(.int (9 : Int32)), (.int (17 : Int32))])) _
    refine XS.icmpYes X0.here hx rfl (pc0 := 86) (pc' := 93) rfl (hb hby d0_86) rfl (by decide +kernel) (by decide) (by decide) ?_
    show Steps p.tables e below (s₁.setTop (mkF m 93 #[.val (.int (17 : Int32))] [])) _
    refine XS.iloadN X0.here hx rfl (hb hby d0_93) rfl ?_
    show Steps p.tables e below (s₁.setTop (mkF m 94 #[.val (.int (17 : Int32))] [(.int (17 : Int32))])) _
    refine XS.bipush X0.here hx rfl (hb hby d0_94) ?_
    show Steps p.tables e below (s₁.setTop (mkF m 96 #[.val (.int (17 : Int32))] [(.int (10 : Int32)), (.int (17 : Int32))])) _
    refine XS.icmpYes X0.here hx rfl (pc0 := 96) (pc' := 103) rfl (hb hby d0_96) rfl (by decide +kernel) (by decide) (by decide) ?_
    show Steps p.tables e below (s₁.setTop (mkF m 103 #[.val (.int (17 : Int32))] [])) _
    refine XS.iloadN X0.here hx rfl (hb hby d0_103) rfl ?_
    show Steps p.tables e below (s₁.setTop (mkF m 104 #[.val (.int (17 : Int32))] [(.int (17 : Int32))])) _
    refine XS.bipush X0.here hx rfl (hb hby d0_104) ?_
    show Steps p.tables e below (s₁.setTop (mkF m 106 #[.val (.int (17 : Int32))] [(.int (11 : Int32)), (.int (17 : Int32))])) _
    refine XS.icmpYes X0.here hx rfl (pc0 := 106) (pc' := 113) rfl (hb hby d0_106) rfl (by decide +kernel) (by decide) (by decide) ?_
    show Steps p.tables e below (s₁.setTop (mkF m 113 #[.val (.int (17 : Int32))] [])) _
    refine XS.iloadN X0.here hx rfl (hb hby d0_113) rfl ?_
    show Steps p.tables e below (s₁.setTop (mkF m 114 #[.val (.int (17 : Int32))] [(.int (17 : Int32))])) _
    refine XS.bipush X0.here hx rfl (hb hby d0_114) ?_
    show Steps p.tables e below (s₁.setTop (mkF m 116 #[.val (.int (17 : Int32))] [(.int (12 : Int32)), (.int (17 : Int32))])) _
    refine XS.icmpYes X0.here hx rfl (pc0 := 116) (pc' := 123) rfl (hb hby d0_116) rfl (by decide +kernel) (by decide) (by decide) ?_
    show Steps p.tables e below (s₁.setTop (mkF m 123 #[.val (.int (17 : Int32))] [])) _
    refine XS.iloadN X0.here hx rfl (hb hby d0_123) rfl ?_
    show Steps p.tables e below (s₁.setTop (mkF m 124 #[.val (.int (17 : Int32))] [(.int (17 : Int32))])) _
    refine XS.bipush X0.here hx rfl (hb hby d0_124) ?_
    show Steps p.tables e below (s₁.setTop (mkF m 126 #[.val (.int (17 : Int32))] [(.int (13 : Int32)), (.int (17 : Int32))])) _
    refine XS.icmpYes X0.here hx rfl (pc0 := 126) (pc' := 133) rfl (hb hby d0_126) rfl (by decide +kernel) (by decide) (by decide) ?_
    show Steps p.tables e below (s₁.setTop (mkF m 133 #[.val (.int (17 : Int32))] [])) _
    refine XS.iloadN X0.here hx rfl (hb hby d0_133) rfl ?_
    show Steps p.tables e below (s₁.setTop (mkF m 134 #[.val (.int (17 : Int32))] [(.int (17 : Int32))])) _
    refine XS.bipush X0.here hx rfl (hb hby d0_134) ?_
    show Steps p.tables e below (s₁.setTop (mkF m 136 #[.val (.int (17 : Int32))] [(.int (14 : Int32)), (.int (17 : Int32))])) _
    refine XS.icmpYes X0.here hx rfl (pc0 := 136) (pc' := 143) rfl (hb hby d0_136) rfl (by decide +kernel) (by decide) (by decide) ?_
    show Steps p.tables e below (s₁.setTop (mkF m 143 #[.val (.int (17 : Int32))] [])) _
    refine XS.iloadN X0.here hx rfl (hb hby d0_143) rfl ?_
    show Steps p.tables e below (s₁.setTop (mkF m 144 #[.val (.int (17 : Int32))] [(.int (17 : Int32))])) _
    refine XS.bipush X0.here hx rfl (hb hby d0_144) ?_
    show Steps p.tables e below (s₁.setTop (mkF m 146 #[.val (.int (17 : Int32))] [(.int (15 : Int32)), (.int (17 : Int32))])) _
    refine XS.icmpYes X0.here hx rfl (pc0 := 146) (pc' := 153) rfl (hb hby d0_146) rfl (by decide +kernel) (by decide) (by decide) ?_
    show Steps p.tables e below (s₁.setTop (mkF m 153 #[.val (.int (17 : Int32))] [])) _
    refine XS.iloadN X0.here hx rfl (hb hby d0_153) rfl ?_
    show Steps p.tables e below (s₁.setTop (mkF m 154 #[.val (.int (17 : Int32))] [(.int (17 : Int32))])) _
    refine XS.bipush X0.here hx rfl (hb hby d0_154) ?_
    show Steps p.tables e below (s₁.setTop (mkF m 156 #[.val (.int (17 : Int32))] [(.int (16 : Int32)), (.int (17 : Int32))])) _
    refine XS.icmpYes X0.here hx rfl (pc0 := 156) (pc' := 163) rfl (hb hby d0_156) rfl (by decide +kernel) (by decide) (by decide) ?_
    show Steps p.tables e below (s₁.setTop (mkF m 163 #[.val (.int (17 : Int32))] [])) _
    refine XS.iloadN X0.here hx rfl (hb hby d0_163) rfl ?_
    show Steps p.tables e below (s₁.setTop (mkF m 164 #[.val (.int (17 : Int32))] [(.int (17 : Int32))])) _
    refine XS.bipush X0.here hx rfl (hb hby d0_164) ?_
    show Steps p.tables e below (s₁.setTop (mkF m 166 #[.val (.int (17 : Int32))] [(.int (17 : Int32)), (.int (17 : Int32))])) _
    refine XS.icmpNo X0.here hx rfl (hb hby d0_166) rfl (by decide +kernel) ?_
    show Steps p.tables e below (s₁.setTop (mkF m 169 #[.val (.int (17 : Int32))] [])) _
    refine st1 _ ?_
    show Steps p.tables e below (T1.setTop (mkF m 172 #[.val (.int (17 : Int32))] [(.ref s_EXTENSION)])) _
    exact retOut X1 hx (i := .areturn) Bd.returns rfl (Or.inr (Or.inr (Or.inr (Or.inr ⟨rfl, rfl, rfl⟩)))) (hb hby d0_172) hr
  · exact ⟨rfl, N0, e1⟩
set_option maxRecDepth 65536 in
set_option maxHeartbeats 40000000 in
theorem r69 (l : Launch) (Z : State) (a0 : Array Value) (hw : ∀ d ∈ tables_1, d.before a0 Z = true) (ws : List Jvm.Cond) (h0 : Heap) (n0 : Nat) (s_NO_OP : Addr) (s_END_OF_CONSTRUCTOR : Addr) (s_ASCII_STRING : Addr) (s_BOOLEAN : Addr) (s_UNIQUE_ID : Addr) (s_SEQUENCE : Addr) (s_SET : Addr) (s_INTEGER : Addr) (s_PADDING : Addr) (s_PROPERTY_LIST : Addr) (s_DATE : Addr) (s_BIT_STRING : Addr) (t_BIT_STRING_qualifierTag : Addr) (s_PROPERTY : Addr) (s_FIELD : Addr) (t_FIELD_qualifierTag : Addr) (s_COMPRESSED : Addr) (s_ENCRYPTED : Addr) (t_ENCRYPTED_qualifierTag : Addr) (s_MESSAGE : Addr) (t_MESSAGE_qualifierTag : Addr) (s_EXTENSION : Addr) (s_VENDOR_DEFINED : Addr) (K : Ctx Z h0 s_NO_OP s_END_OF_CONSTRUCTOR s_ASCII_STRING s_BOOLEAN s_UNIQUE_ID s_SEQUENCE s_SET s_INTEGER s_PADDING s_PROPERTY_LIST s_DATE s_BIT_STRING t_BIT_STRING_qualifierTag s_PROPERTY s_FIELD t_FIELD_qualifierTag s_COMPRESSED s_ENCRYPTED t_ENCRYPTED_qualifierTag s_MESSAGE t_MESSAGE_qualifierTag s_EXTENSION s_VENDOR_DEFINED) :
    MetFree l (⟨"com/example/plainwire/plainwire/rfc806/Element", "qualified", "()Z"⟩ : MethodName) (head1 (Jvm.Cond.code (⟨"com/example/plainwire/plainwire/rfc806/Element", "qualified", "()Z"⟩ : MethodName) prog_101_method_9_code 1 (some .boolean) :: ws) ({ frames := 0, cells := 0, slots := 0, locals := 0 } : Room)) (fun a U => a = #[(.ref s_EXTENSION)] ∧ Z.Warmed39 U.vm ∧ U.heap = h0) (fun _ _ _ _ _ => True) (fun _ U o U' => ∃ v L, o = .returned v ∧ QV (.int (1 : Int32)) h0 n0 v U'.heap L ∧ FrameEnd U o U' L ({ frames := 0, cells := 0, slots := 0, locals := 0 } : Room).cells ({ frames := 0, cells := 0, slots := 0, locals := 0 } : Room).slots) := by
  obtain ⟨S_NO_OP, F_NO_OP_code, E_NO_OP, F_NO_OP_qualifierTag, S_END_OF_CONSTRUCTOR, F_END_OF_CONSTRUCTOR_code, E_END_OF_CONSTRUCTOR, F_END_OF_CONSTRUCTOR_qualifierTag, S_ASCII_STRING, F_ASCII_STRING_code, E_ASCII_STRING, F_ASCII_STRING_qualifierTag, S_BOOLEAN, F_BOOLEAN_code, E_BOOLEAN, F_BOOLEAN_qualifierTag, S_UNIQUE_ID, F_UNIQUE_ID_code, E_UNIQUE_ID, F_UNIQUE_ID_qualifierTag, S_SEQUENCE, F_SEQUENCE_code, E_SEQUENCE, F_SEQUENCE_qualifierTag, S_SET, F_SET_code, E_SET, F_SET_qualifierTag, S_INTEGER, F_INTEGER_code, E_INTEGER, F_INTEGER_qualifierTag, S_PADDING, F_PADDING_code, E_PADDING, F_PADDING_qualifierTag, S_PROPERTY_LIST, F_PROPERTY_LIST_code, E_PROPERTY_LIST, F_PROPERTY_LIST_qualifierTag, S_DATE, F_DATE_code, E_DATE, F_DATE_qualifierTag, S_BIT_STRING, F_BIT_STRING_code, E_BIT_STRING, F_BIT_STRING_qualifierTag, S_PROPERTY, F_PROPERTY_code, E_PROPERTY, F_PROPERTY_qualifierTag, S_COMPRESSED, F_COMPRESSED_code, E_COMPRESSED, F_COMPRESSED_qualifierTag, S_ENCRYPTED, F_ENCRYPTED_code, E_ENCRYPTED, F_ENCRYPTED_qualifierTag, S_FIELD, F_FIELD_code, E_FIELD, F_FIELD_qualifierTag, S_MESSAGE, F_MESSAGE_code, E_MESSAGE, F_MESSAGE_qualifierTag, S_EXTENSION, F_EXTENSION_code, E_EXTENSION, F_EXTENSION_qualifierTag, S_VENDOR_DEFINED, F_VENDOR_DEFINED_code, E_VENDOR_DEFINED, F_VENDOR_DEFINED_qualifierTag⟩ := id K
  refine MetFree.of_bodySF (plainFor_of_name pn1) hisR ?_
  intro p e s m args below meth c s₁ Bd hml0 hP hK
  obtain ⟨rfl, hZ, hh⟩ := hP
  have hx := Bd.exec
  have hby := Bd.bytes
  have hml : c.maxLocals = 1 := hml0
  have hown : s.vm.findClass "com/example/plainwire/plainwire/rfc806/Element" = some m.cls := findClass_of_methodNamed Bd.named
  have X0 : Stand p l e ({ frames := 0, cells := 0, slots := 0, locals := 0 } : Room) s m #[(.ref s_EXTENSION)] below meth c s₁ [] 0 0 := Stand.of_body Bd
  have e0 : s₁.heap = h0 := by rw [← hh, Bd.state]; rfl
  have N0 := Fr.nil n0
  have pre0 : ∀ t, Steps p.tables e below (s₁.setTop (mkF m 0 #[.val (.ref s_EXTENSION)] [])) t → Steps p.tables e below (s₁.setTop (entryFrame m #[(.ref s_EXTENSION)] 1)) t := fun t k => castTop (by first | (simp [entryFrame, mkF, argsToLocals, Value.category]; done) | rfl) k
  obtain ⟨T1, X1, e1, st1⟩ := getF X0 hx hZ hown (host := "") (Or.inl (hw _ (List.mem_of_getElem? (i := 13) rfl))) Via.refl e0 F_EXTENSION_code (g := (mkF m 1 #[.val (.ref s_EXTENSION)] [(.ref s_EXTENSION)])) rfl rfl (hb hby d1_1)
  obtain ⟨fs, hr, hrun, hended, hW, hsame⟩ := X1.leave (v := some (.int (1 : Int32))) (fun h => by rw [Bd.returns] at h; cases h)
  refine ⟨_, _, pre0 _ ?_, hrun, hended, _, _, rfl, ?_, ⟨_, rfl⟩, hW, hsame.mono (by decide) (by decide)⟩
  · show Steps p.tables e below (s₁.setTop (mkF m 0 #[.val (.ref s_EXTENSION)] [])) _
    refine XS.aloadN X0.here hx rfl (hb hby d1_0) rfl rfl ?_
    show Steps p.tables e below (s₁.setTop (mkF m 1 #[.val (.ref s_EXTENSION)] [(.ref s_EXTENSION)])) _
    refine st1 _ ?_
    show Steps p.tables e below (T1.setTop (mkF m 4 #[.val (.ref s_EXTENSION)] [(.int (126 : Int32))])) _
    refine XS.bipush X1.here hx rfl (hb hby d1_4) ?_
    show Steps p.tables e below (T1.setTop (mkF m 6 #[.val (.ref s_EXTENSION)] [(.int (64 : Int32)), (.int (126 : Int32))])) _
    refine XS.iand X1.here hx rfl (hb hby d1_6) rfl ?_
    show Steps p.tables e below (T1.setTop (mkF m 7 #[.val (.ref s_EXTENSION)] [(.int ((126 : Int32) &&& (64 : Int32)))])) _
    rw [show ((126 : Int32) &&& (64 : Int32)) = (64 : Int32) from by decide +kernel]
    show Steps p.tables e below (T1.setTop (mkF m 7 #[.val (.ref s_EXTENSION)] [(.int (64 : Int32))])) _
    refine XS.ifNo X1.here hx rfl (hb hby d1_7) rfl (by decide +kernel) ?_
    show Steps p.tables e below (T1.setTop (mkF m 10 #[.val (.ref s_EXTENSION)] [])) _
    refine XS.iconst X1.here hx rfl (hb hby d1_10) ?_
    show Steps p.tables e below (T1.setTop (mkF m 11 #[.val (.ref s_EXTENSION)] [(.int (1 : Int32))])) _
    refine XS.goto X1.here hx rfl (pc0 := 11) (pc' := 15) rfl (hb hby d1_11) (by decide) (by decide) ?_
    show Steps p.tables e below (T1.setTop (mkF m 15 #[.val (.ref s_EXTENSION)] [(.int (1 : Int32))])) _
    exact retN X1 hx (t := .boolean) Bd.returns (by simp) (hb hby d1_15) hr
  · exact ⟨rfl, N0, e1⟩
set_option maxRecDepth 65536 in
set_option maxHeartbeats 40000000 in
theorem r70 (l : Launch) (Z : State) (a0 : Array Value) (hw : ∀ d ∈ tables_1, d.before a0 Z = true) (ws : List Jvm.Cond) (h0 : Heap) (n0 : Nat) (s_NO_OP : Addr) (s_END_OF_CONSTRUCTOR : Addr) (s_ASCII_STRING : Addr) (s_BOOLEAN : Addr) (s_UNIQUE_ID : Addr) (s_SEQUENCE : Addr) (s_SET : Addr) (s_INTEGER : Addr) (s_PADDING : Addr) (s_PROPERTY_LIST : Addr) (s_DATE : Addr) (s_BIT_STRING : Addr) (t_BIT_STRING_qualifierTag : Addr) (s_PROPERTY : Addr) (s_FIELD : Addr) (t_FIELD_qualifierTag : Addr) (s_COMPRESSED : Addr) (s_ENCRYPTED : Addr) (t_ENCRYPTED_qualifierTag : Addr) (s_MESSAGE : Addr) (t_MESSAGE_qualifierTag : Addr) (s_EXTENSION : Addr) (s_VENDOR_DEFINED : Addr) (K : Ctx Z h0 s_NO_OP s_END_OF_CONSTRUCTOR s_ASCII_STRING s_BOOLEAN s_UNIQUE_ID s_SEQUENCE s_SET s_INTEGER s_PADDING s_PROPERTY_LIST s_DATE s_BIT_STRING t_BIT_STRING_qualifierTag s_PROPERTY s_FIELD t_FIELD_qualifierTag s_COMPRESSED s_ENCRYPTED t_ENCRYPTED_qualifierTag s_MESSAGE t_MESSAGE_qualifierTag s_EXTENSION s_VENDOR_DEFINED) :
    MetFree l (⟨"com/example/plainwire/plainwire/rfc806/Element", "qualifierTag", "()Ljava/lang/String;"⟩ : MethodName) (head1 (Jvm.Cond.code (⟨"com/example/plainwire/plainwire/rfc806/Element", "qualifierTag", "()Ljava/lang/String;"⟩ : MethodName) prog_101_method_10_code 1 (some (.object "java/lang/String")) :: ws) ({ frames := 0, cells := 0, slots := 0, locals := 0 } : Room)) (fun a U => a = #[(.ref s_EXTENSION)] ∧ Z.Warmed39 U.vm ∧ U.heap = h0) (fun _ _ _ _ _ => True) (fun _ U o U' => ∃ v L, o = .returned v ∧ QV (.ref t_FIELD_qualifierTag) h0 n0 v U'.heap L ∧ FrameEnd U o U' L ({ frames := 0, cells := 0, slots := 0, locals := 0 } : Room).cells ({ frames := 0, cells := 0, slots := 0, locals := 0 } : Room).slots) := by
  obtain ⟨S_NO_OP, F_NO_OP_code, E_NO_OP, F_NO_OP_qualifierTag, S_END_OF_CONSTRUCTOR, F_END_OF_CONSTRUCTOR_code, E_END_OF_CONSTRUCTOR, F_END_OF_CONSTRUCTOR_qualifierTag, S_ASCII_STRING, F_ASCII_STRING_code, E_ASCII_STRING, F_ASCII_STRING_qualifierTag, S_BOOLEAN, F_BOOLEAN_code, E_BOOLEAN, F_BOOLEAN_qualifierTag, S_UNIQUE_ID, F_UNIQUE_ID_code, E_UNIQUE_ID, F_UNIQUE_ID_qualifierTag, S_SEQUENCE, F_SEQUENCE_code, E_SEQUENCE, F_SEQUENCE_qualifierTag, S_SET, F_SET_code, E_SET, F_SET_qualifierTag, S_INTEGER, F_INTEGER_code, E_INTEGER, F_INTEGER_qualifierTag, S_PADDING, F_PADDING_code, E_PADDING, F_PADDING_qualifierTag, S_PROPERTY_LIST, F_PROPERTY_LIST_code, E_PROPERTY_LIST, F_PROPERTY_LIST_qualifierTag, S_DATE, F_DATE_code, E_DATE, F_DATE_qualifierTag, S_BIT_STRING, F_BIT_STRING_code, E_BIT_STRING, F_BIT_STRING_qualifierTag, S_PROPERTY, F_PROPERTY_code, E_PROPERTY, F_PROPERTY_qualifierTag, S_COMPRESSED, F_COMPRESSED_code, E_COMPRESSED, F_COMPRESSED_qualifierTag, S_ENCRYPTED, F_ENCRYPTED_code, E_ENCRYPTED, F_ENCRYPTED_qualifierTag, S_FIELD, F_FIELD_code, E_FIELD, F_FIELD_qualifierTag, S_MESSAGE, F_MESSAGE_code, E_MESSAGE, F_MESSAGE_qualifierTag, S_EXTENSION, F_EXTENSION_code, E_EXTENSION, F_EXTENSION_qualifierTag, S_VENDOR_DEFINED, F_VENDOR_DEFINED_code, E_VENDOR_DEFINED, F_VENDOR_DEFINED_qualifierTag⟩ := id K
  refine MetFree.of_bodySF (plainFor_of_name pn2) hisR ?_
  intro p e s m args below meth c s₁ Bd hml0 hP hK
  obtain ⟨rfl, hZ, hh⟩ := hP
  have hx := Bd.exec
  have hby := Bd.bytes
  have hml : c.maxLocals = 1 := hml0
  have hown : s.vm.findClass "com/example/plainwire/plainwire/rfc806/Element" = some m.cls := findClass_of_methodNamed Bd.named
  have X0 : Stand p l e ({ frames := 0, cells := 0, slots := 0, locals := 0 } : Room) s m #[(.ref s_EXTENSION)] below meth c s₁ [] 0 0 := Stand.of_body Bd
  have e0 : s₁.heap = h0 := by rw [← hh, Bd.state]; rfl
  have N0 := Fr.nil n0
  have pre0 : ∀ t, Steps p.tables e below (s₁.setTop (mkF m 0 #[.val (.ref s_EXTENSION)] [])) t → Steps p.tables e below (s₁.setTop (entryFrame m #[(.ref s_EXTENSION)] 1)) t := fun t k => castTop (by first | (simp [entryFrame, mkF, argsToLocals, Value.category]; done) | rfl) k
  obtain ⟨T1, X1, e1, st1⟩ := getF X0 hx hZ hown (host := "") (Or.inl (hw _ (List.mem_of_getElem? (i := 20) rfl))) Via.refl e0 F_EXTENSION_qualifierTag (g := (mkF m 1 #[.val (.ref s_EXTENSION)] [(.ref s_EXTENSION)])) rfl rfl (hb hby d2_1)
  obtain ⟨fs, hr, hrun, hended, hW, hsame⟩ := X1.leave (v := some (.ref t_FIELD_qualifierTag)) (fun h => by rw [Bd.returns] at h; cases h)
  refine ⟨_, _, pre0 _ ?_, hrun, hended, _, _, rfl, ?_, ⟨_, rfl⟩, hW, hsame.mono (by decide) (by decide)⟩
  · show Steps p.tables e below (s₁.setTop (mkF m 0 #[.val (.ref s_EXTENSION)] [])) _
    refine XS.aloadN X0.here hx rfl (hb hby d2_0) rfl rfl ?_
    show Steps p.tables e below (s₁.setTop (mkF m 1 #[.val (.ref s_EXTENSION)] [(.ref s_EXTENSION)])) _
    refine st1 _ ?_
    show Steps p.tables e below (T1.setTop (mkF m 4 #[.val (.ref s_EXTENSION)] [(.ref t_FIELD_qualifierTag)])) _
    exact retOut X1 hx (i := .areturn) Bd.returns rfl (Or.inr (Or.inr (Or.inr (Or.inr ⟨rfl, rfl, rfl⟩)))) (hb hby d2_4) hr
  · exact ⟨rfl, N0, e1⟩
set_option maxRecDepth 65536 in
set_option maxHeartbeats 40000000 in
theorem law_k17 (l : Launch) (Z : State) (a0 : Array Value) (hw : ∀ d ∈ tables_1, d.before a0 Z = true) (ws : List Jvm.Cond) (h0 : Heap) (n0 : Nat) (s_NO_OP : Addr) (s_END_OF_CONSTRUCTOR : Addr) (s_ASCII_STRING : Addr) (s_BOOLEAN : Addr) (s_UNIQUE_ID : Addr) (s_SEQUENCE : Addr) (s_SET : Addr) (s_INTEGER : Addr) (s_PADDING : Addr) (s_PROPERTY_LIST : Addr) (s_DATE : Addr) (s_BIT_STRING : Addr) (t_BIT_STRING_qualifierTag : Addr) (s_PROPERTY : Addr) (s_FIELD : Addr) (t_FIELD_qualifierTag : Addr) (s_COMPRESSED : Addr) (s_ENCRYPTED : Addr) (t_ENCRYPTED_qualifierTag : Addr) (s_MESSAGE : Addr) (t_MESSAGE_qualifierTag : Addr) (s_EXTENSION : Addr) (s_VENDOR_DEFINED : Addr) (K : Ctx Z h0 s_NO_OP s_END_OF_CONSTRUCTOR s_ASCII_STRING s_BOOLEAN s_UNIQUE_ID s_SEQUENCE s_SET s_INTEGER s_PADDING s_PROPERTY_LIST s_DATE s_BIT_STRING t_BIT_STRING_qualifierTag s_PROPERTY s_FIELD t_FIELD_qualifierTag s_COMPRESSED s_ENCRYPTED t_ENCRYPTED_qualifierTag s_MESSAGE t_MESSAGE_qualifierTag s_EXTENSION s_VENDOR_DEFINED) (p0 : Int32) (hp0 : ((p0 &&& (2147483647 : Int32)) % (19 : Int32)) = (17 : Int32)) :
    MetFree l x (head1 (Jvm.Cond.code x code maxLocals ret :: ws) room_1) (fun a U => a = #[(.int p0)] ∧ Z.Warmed39 U.vm ∧ U.heap = h0) (fun _ _ _ _ _ => True) (fun _ U o U' => ∃ v L, o = .returned v ∧ QV (.int (1 : Int32)) h0 n0 v U'.heap L ∧ FrameEnd U o U' L room_1.cells room_1.slots) := by
  obtain ⟨S_NO_OP, F_NO_OP_code, E_NO_OP, F_NO_OP_qualifierTag, S_END_OF_CONSTRUCTOR, F_END_OF_CONSTRUCTOR_code, E_END_OF_CONSTRUCTOR, F_END_OF_CONSTRUCTOR_qualifierTag, S_ASCII_STRING, F_ASCII_STRING_code, E_ASCII_STRING, F_ASCII_STRING_qualifierTag, S_BOOLEAN, F_BOOLEAN_code, E_BOOLEAN, F_BOOLEAN_qualifierTag, S_UNIQUE_ID, F_UNIQUE_ID_code, E_UNIQUE_ID, F_UNIQUE_ID_qualifierTag, S_SEQUENCE, F_SEQUENCE_code, E_SEQUENCE, F_SEQUENCE_qualifierTag, S_SET, F_SET_code, E_SET, F_SET_qualifierTag, S_INTEGER, F_INTEGER_code, E_INTEGER, F_INTEGER_qualifierTag, S_PADDING, F_PADDING_code, E_PADDING, F_PADDING_qualifierTag, S_PROPERTY_LIST, F_PROPERTY_LIST_code, E_PROPERTY_LIST, F_PROPERTY_LIST_qualifierTag, S_DATE, F_DATE_code, E_DATE, F_DATE_qualifierTag, S_BIT_STRING, F_BIT_STRING_code, E_BIT_STRING, F_BIT_STRING_qualifierTag, S_PROPERTY, F_PROPERTY_code, E_PROPERTY, F_PROPERTY_qualifierTag, S_COMPRESSED, F_COMPRESSED_code, E_COMPRESSED, F_COMPRESSED_qualifierTag, S_ENCRYPTED, F_ENCRYPTED_code, E_ENCRYPTED, F_ENCRYPTED_qualifierTag, S_FIELD, F_FIELD_code, E_FIELD, F_FIELD_qualifierTag, S_MESSAGE, F_MESSAGE_code, E_MESSAGE, F_MESSAGE_qualifierTag, S_EXTENSION, F_EXTENSION_code, E_EXTENSION, F_EXTENSION_qualifierTag, S_VENDOR_DEFINED, F_VENDOR_DEFINED_code, E_VENDOR_DEFINED, F_VENDOR_DEFINED_qualifierTag⟩ := id K
  refine MetFree.of_bodySF (plainFor_of_name pn3) hisR ?_
  intro p e s m args below meth c s₁ Bd hml0 hP hK
  obtain ⟨rfl, hZ, hh⟩ := hP
  have hx := Bd.exec
  have hby := Bd.bytes
  have hml : c.maxLocals = 6 := hml0
  have hown : s.vm.findClass "com/example/plainwire/plainwire/rfc806/ElementQualifiedPinLaw" = some m.cls := findClass_of_methodNamed Bd.named
  have X0 : Stand p l e room_1 s m #[(.int p0)] below meth c s₁ [] 0 0 := Stand.of_body Bd
  have e0 : s₁.heap = h0 := by rw [← hh, Bd.state]; rfl
  have N0 := Fr.nil n0
  have pre0 : ∀ t, Steps p.tables e below (s₁.setTop (mkF m 0 #[.val (.int p0), .unset, .unset, .unset, .unset, .unset] [])) t → Steps p.tables e below (s₁.setTop (entryFrame m #[(.int p0)] maxLocals)) t := fun t k => castTop (by first | (simp [entryFrame, mkF, argsToLocals, Value.category, maxLocals]; done) | rfl) k
  obtain ⟨_, _, ⟨T1, L1, k1, n1⟩, -, X1, ⟨Lc1, hQ1, l1, y1, z1⟩, st1⟩ := Jvm.LawKit.callS X0 hx (y := (⟨"com/example/plainwire/plainwire/rfc806/ElementQualifiedPinLaw", "pick", "(I)Lcom/example/plainwire/plainwire/rfc806/Element;"⟩ : MethodName)) hown (mvT hZ (hw _ (List.mem_of_getElem? (i := 1) rfl))) (mvT hZ (hw _ (List.mem_of_getElem? (i := 2) rfl))) (mvT hZ (hw _ (List.mem_of_getElem? (i := 3) rfl))) (mvT hZ (hw _ (List.mem_of_getElem? (i := 4) rfl))) (by decide) (backOf (W := 0) (r68 l Z a0 hw [] h0 n0 s_NO_OP s_END_OF_CONSTRUCTOR s_ASCII_STRING s_BOOLEAN s_UNIQUE_ID s_SEQUENCE s_SET s_INTEGER s_PADDING s_PROPERTY_LIST s_DATE s_BIT_STRING t_BIT_STRING_qualifierTag s_PROPERTY s_FIELD t_FIELD_qualifierTag s_COMPRESSED s_ENCRYPTED t_ENCRYPTED_qualifierTag s_MESSAGE t_MESSAGE_qualifierTag s_EXTENSION s_VENDOR_DEFINED K) hZ (hw _ (List.mem_of_getElem? (i := 4) rfl)) (hw _ (List.mem_of_getElem? (i := 3) rfl)) (by decide) (by decide)) (g := (mkF m 9 #[.val (.int p0), .val (.int (17 : Int32)), .unset, .unset, .unset, .unset] [(.int (17 : Int32))])) rfl (by rw [hml]; rfl) (argsL := [(.int (17 : Int32))]) (rest := []) (lenOf pd0 rfl) rfl (by show 2 * 0 + _ ≤ _; exact Nat.le_of_eq rfl) (hb hby at_9) (fun _ _ => ⟨rfl, e0, (by decide : 0 + 0 ≤ _), (by decide : 0 + 0 ≤ _)⟩)
  dsimp only [Pt.U, Pt.locs, Pt.cells, Pt.slots] at X1 l1 y1 z1 st1 hQ1
  subst l1 y1 z1
  obtain ⟨rfl, N1q, e1⟩ := hQ1
  have N1 := Fr.app N0 N1q
  obtain ⟨cq2, kq2, q2a, q2b, q2c⟩ := isOf hZ e1 E_EXTENSION
  obtain ⟨_, _, ⟨T2, L2, k2, n2⟩, -, X2, ⟨Lc2, hQ2, l2, y2, z2⟩, st2⟩ := X1.virtualBack hx (y := (⟨"com/example/plainwire/plainwire/rfc806/Element", "qualified", "()Z"⟩ : MethodName)) (z := (⟨"com/example/plainwire/plainwire/rfc806/Element", "qualified", "()Z"⟩ : MethodName)) hown (mvT hZ (hw _ (List.mem_of_getElem? (i := 8) rfl))) (mvT hZ (hw _ (List.mem_of_getElem? (i := 9) rfl))) (notFace_of_selects (args := #[]) (mvT hZ (hw _ (List.mem_of_getElem? (i := 11) rfl)))) (mvT hZ (hw _ (List.mem_of_getElem? (i := 11) rfl))) (mvT hZ (hw _ (List.mem_of_getElem? (i := 10) rfl))) (by decide) (backOf (W := 0) (r69 l Z a0 hw [] h0 n0 s_NO_OP s_END_OF_CONSTRUCTOR s_ASCII_STRING s_BOOLEAN s_UNIQUE_ID s_SEQUENCE s_SET s_INTEGER s_PADDING s_PROPERTY_LIST s_DATE s_BIT_STRING t_BIT_STRING_qualifierTag s_PROPERTY s_FIELD t_FIELD_qualifierTag s_COMPRESSED s_ENCRYPTED t_ENCRYPTED_qualifierTag s_MESSAGE t_MESSAGE_qualifierTag s_EXTENSION s_VENDOR_DEFINED K) hZ (hw _ (List.mem_of_getElem? (i := 12) rfl)) (hw _ (List.mem_of_getElem? (i := 6) rfl)) (by decide) (by decide)) q2a q2c (g := (mkF m 26 #[.val (.int p0), .val (.int (17 : Int32)), .val (.ref s_EXTENSION), .val (.int (1 : Int32)), .unset, .unset] [(.ref s_EXTENSION)])) rfl (by rw [hml]; rfl) (Steps.refl _) (argsL := []) (rest := []) (lenOf pd1 rfl) rfl (by show 2 * 0 + _ ≤ _; exact Nat.le_of_eq rfl) (hb hby at_26) (fun _ _ => ⟨rfl, e1, (by decide : 0 + 0 ≤ _), (by decide : 0 + 0 ≤ _)⟩)
  dsimp only [Pt.U, Pt.locs, Pt.cells, Pt.slots] at X2 l2 y2 z2 st2 hQ2
  subst l2 y2 z2
  obtain ⟨rfl, N2q, e2⟩ := hQ2
  have N2 := Fr.app N1 N2q
  obtain ⟨cq3, kq3, q3a, q3b, q3c⟩ := isOf hZ e2 E_EXTENSION
  obtain ⟨_, _, ⟨T3, L3, k3, n3⟩, -, X3, ⟨Lc3, hQ3, l3, y3, z3⟩, st3⟩ := X2.virtualBack hx (y := (⟨"com/example/plainwire/plainwire/rfc806/Element", "qualifierTag", "()Ljava/lang/String;"⟩ : MethodName)) (z := (⟨"com/example/plainwire/plainwire/rfc806/Element", "qualifierTag", "()Ljava/lang/String;"⟩ : MethodName)) hown (mvT hZ (hw _ (List.mem_of_getElem? (i := 15) rfl))) (mvT hZ (hw _ (List.mem_of_getElem? (i := 16) rfl))) (notFace_of_selects (args := #[]) (mvT hZ (hw _ (List.mem_of_getElem? (i := 18) rfl)))) (mvT hZ (hw _ (List.mem_of_getElem? (i := 18) rfl))) (mvT hZ (hw _ (List.mem_of_getElem? (i := 17) rfl))) (by decide) (backOf (W := 0) (r70 l Z a0 hw [] h0 n0 s_NO_OP s_END_OF_CONSTRUCTOR s_ASCII_STRING s_BOOLEAN s_UNIQUE_ID s_SEQUENCE s_SET s_INTEGER s_PADDING s_PROPERTY_LIST s_DATE s_BIT_STRING t_BIT_STRING_qualifierTag s_PROPERTY s_FIELD t_FIELD_qualifierTag s_COMPRESSED s_ENCRYPTED t_ENCRYPTED_qualifierTag s_MESSAGE t_MESSAGE_qualifierTag s_EXTENSION s_VENDOR_DEFINED K) hZ (hw _ (List.mem_of_getElem? (i := 19) rfl)) (hw _ (List.mem_of_getElem? (i := 6) rfl)) (by decide) (by decide)) q3a q3c (g := (mkF m 32 #[.val (.int p0), .val (.int (17 : Int32)), .val (.ref s_EXTENSION), .val (.int (1 : Int32)), .val (.int (1 : Int32)), .unset] [(.ref s_EXTENSION)])) rfl (by rw [hml]; rfl) (Steps.refl _) (argsL := []) (rest := []) (lenOf pd2 rfl) rfl (by show 2 * 0 + _ ≤ _; exact Nat.le_of_eq rfl) (hb hby at_32) (fun _ _ => ⟨rfl, e2, (by decide : 0 + 0 ≤ _), (by decide : 0 + 0 ≤ _)⟩)
  dsimp only [Pt.U, Pt.locs, Pt.cells, Pt.slots] at X3 l3 y3 z3 st3 hQ3
  subst l3 y3 z3
  obtain ⟨rfl, N3q, e3⟩ := hQ3
  have N3 := Fr.app N2 N3q
  obtain ⟨fs, hr, hrun, hended, hW, hsame⟩ := X3.leave (v := some (.int (1 : Int32))) (fun h => by rw [Bd.returns] at h; cases h)
  refine ⟨_, _, pre0 _ ?_, hrun, hended, _, _, rfl, ?_, ⟨_, rfl⟩, hW, hsame.mono (by decide) (by decide)⟩
  · show Steps p.tables e below (s₁.setTop (mkF m 0 #[.val (.int p0), .unset, .unset, .unset, .unset, .unset] [])) _
    refine XS.iloadN X0.here hx rfl (hb hby at_0) rfl ?_
    show Steps p.tables e below (s₁.setTop (mkF m 1 #[.val (.int p0), .unset, .unset, .unset, .unset, .unset] [(.int p0)])) _
    refine X0.ldcInt hx hown (mvT hZ (hw _ (List.mem_of_getElem? (i := 0) rfl))) (g := (mkF m 1 #[.val (.int p0), .unset, .unset, .unset, .unset, .unset] [(.int p0)])) rfl (hb hby at_1) _ ?_
    show Steps p.tables e below (s₁.setTop (mkF m 3 #[.val (.int p0), .unset, .unset, .unset, .unset, .unset] [(.int (2147483647 : Int32)), (.int p0)])) _
    refine XS.iand X0.here hx rfl (hb hby at_3) rfl ?_
    show Steps p.tables e below (s₁.setTop (mkF m 4 #[.val (.int p0), .unset, .unset, .unset, .unset, .unset] [(.int (p0 &&& (2147483647 : Int32)))])) _
    refine XS.bipush X0.here hx rfl (hb hby at_4) ?_
    show Steps p.tables e below (s₁.setTop (mkF m 6 #[.val (.int p0), .unset, .unset, .unset, .unset, .unset] [(.int (19 : Int32)), (.int (p0 &&& (2147483647 : Int32)))])) _
    refine Jvm.RoadKit.iremM X0 hx rfl (hb hby at_6) rfl (by decide) ?_
    show Steps p.tables e below (s₁.setTop (mkF m 7 #[.val (.int p0), .unset, .unset, .unset, .unset, .unset] [(.int ((p0 &&& (2147483647 : Int32)) % (19 : Int32)))])) _
    rw [hp0]
    show Steps p.tables e below (s₁.setTop (mkF m 7 #[.val (.int p0), .unset, .unset, .unset, .unset, .unset] [(.int (17 : Int32))])) _
    refine XS.istoreN X0.here hx rfl (hb hby at_7) rfl (l' := #[.val (.int p0), .val (.int (17 : Int32)), .unset, .unset, .unset, .unset]) rfl ?_
    show Steps p.tables e below (s₁.setTop (mkF m 8 #[.val (.int p0), .val (.int (17 : Int32)), .unset, .unset, .unset, .unset] [])) _
    refine XS.iloadN X0.here hx rfl (hb hby at_8) rfl ?_
    show Steps p.tables e below (s₁.setTop (mkF m 9 #[.val (.int p0), .val (.int (17 : Int32)), .unset, .unset, .unset, .unset] [(.int (17 : Int32))])) _
    refine st1 _ ?_
    show Steps p.tables e below (T1.setTop (mkF m 12 #[.val (.int p0), .val (.int (17 : Int32)), .unset, .unset, .unset, .unset] [(.ref s_EXTENSION)])) _
    refine XS.astoreN X1.here hx rfl (hb hby at_12) rfl rfl (l' := #[.val (.int p0), .val (.int (17 : Int32)), .val (.ref s_EXTENSION), .unset, .unset, .unset]) rfl ?_
    show Steps p.tables e below (T1.setTop (mkF m 13 #[.val (.int p0), .val (.int (17 : Int32)), .val (.ref s_EXTENSION), .unset, .unset, .unset] [])) _
    refine XS.iloadN X1.here hx rfl (hb hby at_13) rfl ?_
    show Steps p.tables e below (T1.setTop (mkF m 14 #[.val (.int p0), .val (.int (17 : Int32)), .val (.ref s_EXTENSION), .unset, .unset, .unset] [(.int (17 : Int32))])) _
    refine XS.bipush X1.here hx rfl (hb hby at_14) ?_
    show Steps p.tables e below (T1.setTop (mkF m 16 #[.val (.int p0), .val (.int (17 : Int32)), .val (.ref s_EXTENSION), .unset, .unset, .unset] [(.int (11 : Int32)), (.int (17 : Int32))])) _
    refine XS.icmpNo X1.here hx rfl (hb hby at_16) rfl (by decide +kernel) ?_
    show Steps p.tables e below (T1.setTop (mkF m 19 #[.val (.int p0), .val (.int (17 : Int32)), .val (.ref s_EXTENSION), .unset, .unset, .unset] [])) _
    refine XS.iconst X1.here hx rfl (hb hby at_19) ?_
    show Steps p.tables e below (T1.setTop (mkF m 20 #[.val (.int p0), .val (.int (17 : Int32)), .val (.ref s_EXTENSION), .unset, .unset, .unset] [(.int (1 : Int32))])) _
    refine XS.goto X1.here hx rfl (pc0 := 20) (pc' := 24) rfl (hb hby at_20) (by decide) (by decide) ?_
    show Steps p.tables e below (T1.setTop (mkF m 24 #[.val (.int p0), .val (.int (17 : Int32)), .val (.ref s_EXTENSION), .unset, .unset, .unset] [(.int (1 : Int32))])) _
    refine XS.istoreN X1.here hx rfl (hb hby at_24) rfl (l' := #[.val (.int p0), .val (.int (17 : Int32)), .val (.ref s_EXTENSION), .val (.int (1 : Int32)), .unset, .unset]) rfl ?_
    show Steps p.tables e below (T1.setTop (mkF m 25 #[.val (.int p0), .val (.int (17 : Int32)), .val (.ref s_EXTENSION), .val (.int (1 : Int32)), .unset, .unset] [])) _
    refine XS.aloadN X1.here hx rfl (hb hby at_25) rfl rfl ?_
    show Steps p.tables e below (T1.setTop (mkF m 26 #[.val (.int p0), .val (.int (17 : Int32)), .val (.ref s_EXTENSION), .val (.int (1 : Int32)), .unset, .unset] [(.ref s_EXTENSION)])) _
    refine st2.trans ?_
    show Steps p.tables e below (T2.setTop (mkF m 29 #[.val (.int p0), .val (.int (17 : Int32)), .val (.ref s_EXTENSION), .val (.int (1 : Int32)), .unset, .unset] [(.int (1 : Int32))])) _
    refine XS.istore X2.here hx rfl (hb hby at_29) rfl (l' := #[.val (.int p0), .val (.int (17 : Int32)), .val (.ref s_EXTENSION), .val (.int (1 : Int32)), .val (.int (1 : Int32)), .unset]) rfl ?_
    show Steps p.tables e below (T2.setTop (mkF m 31 #[.val (.int p0), .val (.int (17 : Int32)), .val (.ref s_EXTENSION), .val (.int (1 : Int32)), .val (.int (1 : Int32)), .unset] [])) _
    refine XS.aloadN X2.here hx rfl (hb hby at_31) rfl rfl ?_
    show Steps p.tables e below (T2.setTop (mkF m 32 #[.val (.int p0), .val (.int (17 : Int32)), .val (.ref s_EXTENSION), .val (.int (1 : Int32)), .val (.int (1 : Int32)), .unset] [(.ref s_EXTENSION)])) _
    refine st3.trans ?_
    show Steps p.tables e below (T3.setTop (mkF m 35 #[.val (.int p0), .val (.int (17 : Int32)), .val (.ref s_EXTENSION), .val (.int (1 : Int32)), .val (.int (1 : Int32)), .unset] [(.ref t_FIELD_qualifierTag)])) _
    refine XS.ifnullNo X3.here hx rfl (hb hby at_35) rfl ?_
    show Steps p.tables e below (T3.setTop (mkF m 38 #[.val (.int p0), .val (.int (17 : Int32)), .val (.ref s_EXTENSION), .val (.int (1 : Int32)), .val (.int (1 : Int32)), .unset] [])) _
    refine XS.iconst X3.here hx rfl (hb hby at_38) ?_
    show Steps p.tables e below (T3.setTop (mkF m 39 #[.val (.int p0), .val (.int (17 : Int32)), .val (.ref s_EXTENSION), .val (.int (1 : Int32)), .val (.int (1 : Int32)), .unset] [(.int (1 : Int32))])) _
    refine XS.goto X3.here hx rfl (pc0 := 39) (pc' := 43) rfl (hb hby at_39) (by decide) (by decide) ?_
    show Steps p.tables e below (T3.setTop (mkF m 43 #[.val (.int p0), .val (.int (17 : Int32)), .val (.ref s_EXTENSION), .val (.int (1 : Int32)), .val (.int (1 : Int32)), .unset] [(.int (1 : Int32))])) _
    refine XS.istore X3.here hx rfl (hb hby at_43) rfl (l' := #[.val (.int p0), .val (.int (17 : Int32)), .val (.ref s_EXTENSION), .val (.int (1 : Int32)), .val (.int (1 : Int32)), .val (.int (1 : Int32))]) rfl ?_
    show Steps p.tables e below (T3.setTop (mkF m 45 #[.val (.int p0), .val (.int (17 : Int32)), .val (.ref s_EXTENSION), .val (.int (1 : Int32)), .val (.int (1 : Int32)), .val (.int (1 : Int32))] [])) _
    refine XS.iload X3.here hx rfl (hb hby at_45) rfl ?_
    show Steps p.tables e below (T3.setTop (mkF m 47 #[.val (.int p0), .val (.int (17 : Int32)), .val (.ref s_EXTENSION), .val (.int (1 : Int32)), .val (.int (1 : Int32)), .val (.int (1 : Int32))] [(.int (1 : Int32))])) _
    refine XS.iloadN X3.here hx rfl (hb hby at_47) rfl ?_
    show Steps p.tables e below (T3.setTop (mkF m 48 #[.val (.int p0), .val (.int (17 : Int32)), .val (.ref s_EXTENSION), .val (.int (1 : Int32)), .val (.int (1 : Int32)), .val (.int (1 : Int32))] [(.int (1 : Int32)), (.int (1 : Int32))])) _
    refine XS.icmpNo X3.here hx rfl (hb hby at_48) rfl (by decide +kernel) ?_
    show Steps p.tables e below (T3.setTop (mkF m 51 #[.val (.int p0), .val (.int (17 : Int32)), .val (.ref s_EXTENSION), .val (.int (1 : Int32)), .val (.int (1 : Int32)), .val (.int (1 : Int32))] [])) _
    refine XS.iload X3.here hx rfl (hb hby at_51) rfl ?_
    show Steps p.tables e below (T3.setTop (mkF m 53 #[.val (.int p0), .val (.int (17 : Int32)), .val (.ref s_EXTENSION), .val (.int (1 : Int32)), .val (.int (1 : Int32)), .val (.int (1 : Int32))] [(.int (1 : Int32))])) _
    refine XS.iload X3.here hx rfl (hb hby at_53) rfl ?_
    show Steps p.tables e below (T3.setTop (mkF m 55 #[.val (.int p0), .val (.int (17 : Int32)), .val (.ref s_EXTENSION), .val (.int (1 : Int32)), .val (.int (1 : Int32)), .val (.int (1 : Int32))] [(.int (1 : Int32)), (.int (1 : Int32))])) _
    refine XS.icmpNo X3.here hx rfl (hb hby at_55) rfl (by decide +kernel) ?_
    show Steps p.tables e below (T3.setTop (mkF m 58 #[.val (.int p0), .val (.int (17 : Int32)), .val (.ref s_EXTENSION), .val (.int (1 : Int32)), .val (.int (1 : Int32)), .val (.int (1 : Int32))] [])) _
    refine XS.iconst X3.here hx rfl (hb hby at_58) ?_
    show Steps p.tables e below (T3.setTop (mkF m 59 #[.val (.int p0), .val (.int (17 : Int32)), .val (.ref s_EXTENSION), .val (.int (1 : Int32)), .val (.int (1 : Int32)), .val (.int (1 : Int32))] [(.int (1 : Int32))])) _
    refine XS.goto X3.here hx rfl (pc0 := 59) (pc' := 63) rfl (hb hby at_59) (by decide) (by decide) ?_
    show Steps p.tables e below (T3.setTop (mkF m 63 #[.val (.int p0), .val (.int (17 : Int32)), .val (.ref s_EXTENSION), .val (.int (1 : Int32)), .val (.int (1 : Int32)), .val (.int (1 : Int32))] [(.int (1 : Int32))])) _
    exact retN X3 hx (t := .boolean) Bd.returns (by simp) (hb hby at_63) hr
  · exact ⟨rfl, N3, e3⟩
set_option maxRecDepth 65536 in
set_option maxHeartbeats 40000000 in
theorem r72 (l : Launch) (Z : State) (a0 : Array Value) (hw : ∀ d ∈ tables_1, d.before a0 Z = true) (ws : List Jvm.Cond) (h0 : Heap) (n0 : Nat) (s_NO_OP : Addr) (s_END_OF_CONSTRUCTOR : Addr) (s_ASCII_STRING : Addr) (s_BOOLEAN : Addr) (s_UNIQUE_ID : Addr) (s_SEQUENCE : Addr) (s_SET : Addr) (s_INTEGER : Addr) (s_PADDING : Addr) (s_PROPERTY_LIST : Addr) (s_DATE : Addr) (s_BIT_STRING : Addr) (t_BIT_STRING_qualifierTag : Addr) (s_PROPERTY : Addr) (s_FIELD : Addr) (t_FIELD_qualifierTag : Addr) (s_COMPRESSED : Addr) (s_ENCRYPTED : Addr) (t_ENCRYPTED_qualifierTag : Addr) (s_MESSAGE : Addr) (t_MESSAGE_qualifierTag : Addr) (s_EXTENSION : Addr) (s_VENDOR_DEFINED : Addr) (K : Ctx Z h0 s_NO_OP s_END_OF_CONSTRUCTOR s_ASCII_STRING s_BOOLEAN s_UNIQUE_ID s_SEQUENCE s_SET s_INTEGER s_PADDING s_PROPERTY_LIST s_DATE s_BIT_STRING t_BIT_STRING_qualifierTag s_PROPERTY s_FIELD t_FIELD_qualifierTag s_COMPRESSED s_ENCRYPTED t_ENCRYPTED_qualifierTag s_MESSAGE t_MESSAGE_qualifierTag s_EXTENSION s_VENDOR_DEFINED) :
    MetFree l (⟨"com/example/plainwire/plainwire/rfc806/ElementQualifiedPinLaw", "pick", "(I)Lcom/example/plainwire/plainwire/rfc806/Element;"⟩ : MethodName) (head1 (Jvm.Cond.code (⟨"com/example/plainwire/plainwire/rfc806/ElementQualifiedPinLaw", "pick", "(I)Lcom/example/plainwire/plainwire/rfc806/Element;"⟩ : MethodName) method_2_code 1 (some (.object "com/example/plainwire/plainwire/rfc806/Element")) :: ws) ({ frames := 0, cells := 0, slots := 0, locals := 0 } : Room)) (fun a U => a = #[(.int (18 : Int32))] ∧ Z.Warmed39 U.vm ∧ U.heap = h0) (fun _ _ _ _ _ => True) (fun _ U o U' => ∃ v L, o = .returned v ∧ QV (.ref s_VENDOR_DEFINED) h0 n0 v U'.heap L ∧ FrameEnd U o U' L ({ frames := 0, cells := 0, slots := 0, locals := 0 } : Room).cells ({ frames := 0, cells := 0, slots := 0, locals := 0 } : Room).slots) := by
  obtain ⟨S_NO_OP, F_NO_OP_code, E_NO_OP, F_NO_OP_qualifierTag, S_END_OF_CONSTRUCTOR, F_END_OF_CONSTRUCTOR_code, E_END_OF_CONSTRUCTOR, F_END_OF_CONSTRUCTOR_qualifierTag, S_ASCII_STRING, F_ASCII_STRING_code, E_ASCII_STRING, F_ASCII_STRING_qualifierTag, S_BOOLEAN, F_BOOLEAN_code, E_BOOLEAN, F_BOOLEAN_qualifierTag, S_UNIQUE_ID, F_UNIQUE_ID_code, E_UNIQUE_ID, F_UNIQUE_ID_qualifierTag, S_SEQUENCE, F_SEQUENCE_code, E_SEQUENCE, F_SEQUENCE_qualifierTag, S_SET, F_SET_code, E_SET, F_SET_qualifierTag, S_INTEGER, F_INTEGER_code, E_INTEGER, F_INTEGER_qualifierTag, S_PADDING, F_PADDING_code, E_PADDING, F_PADDING_qualifierTag, S_PROPERTY_LIST, F_PROPERTY_LIST_code, E_PROPERTY_LIST, F_PROPERTY_LIST_qualifierTag, S_DATE, F_DATE_code, E_DATE, F_DATE_qualifierTag, S_BIT_STRING, F_BIT_STRING_code, E_BIT_STRING, F_BIT_STRING_qualifierTag, S_PROPERTY, F_PROPERTY_code, E_PROPERTY, F_PROPERTY_qualifierTag, S_COMPRESSED, F_COMPRESSED_code, E_COMPRESSED, F_COMPRESSED_qualifierTag, S_ENCRYPTED, F_ENCRYPTED_code, E_ENCRYPTED, F_ENCRYPTED_qualifierTag, S_FIELD, F_FIELD_code, E_FIELD, F_FIELD_qualifierTag, S_MESSAGE, F_MESSAGE_code, E_MESSAGE, F_MESSAGE_qualifierTag, S_EXTENSION, F_EXTENSION_code, E_EXTENSION, F_EXTENSION_qualifierTag, S_VENDOR_DEFINED, F_VENDOR_DEFINED_code, E_VENDOR_DEFINED, F_VENDOR_DEFINED_qualifierTag⟩ := id K
  refine MetFree.of_bodySF (plainFor_of_name pn0) hisR ?_
  intro p e s m args below meth c s₁ Bd hml0 hP hK
  obtain ⟨rfl, hZ, hh⟩ := hP
  have hx := Bd.exec
  have hby := Bd.bytes
  have hml : c.maxLocals = 1 := hml0
  have hown : s.vm.findClass "com/example/plainwire/plainwire/rfc806/ElementQualifiedPinLaw" = some m.cls := findClass_of_methodNamed Bd.named
  have X0 : Stand p l e ({ frames := 0, cells := 0, slots := 0, locals := 0 } : Room) s m #[(.int (18 : Int32))] below meth c s₁ [] 0 0 := Stand.of_body Bd
  have e0 : s₁.heap = h0 := by rw [← hh, Bd.state]; rfl
  have N0 := Fr.nil n0
  have pre0 : ∀ t, Steps p.tables e below (s₁.setTop (mkF m 0 #[.val (.int (18 : Int32))] [])) t → Steps p.tables e below (s₁.setTop (entryFrame m #[(.int (18 : Int32))] 1)) t := fun t k => castTop (by first | (simp [entryFrame, mkF, argsToLocals, Value.category]; done) | rfl) k
  obtain ⟨T1, X1, e1, st1⟩ := getS X0 hx hZ hown (host := "") (hw _ (List.mem_of_getElem? (i := 44) rfl)) Via.refl e0 S_VENDOR_DEFINED (g := (mkF m 173 #[.val (.int (18 : Int32))] [])) rfl (hb hby d0_173)
  obtain ⟨fs, hr, hrun, hended, hW, hsame⟩ := X1.leave (v := some (.ref s_VENDOR_DEFINED)) (fun h => by rw [Bd.returns] at h; cases h)
  refine ⟨_, _, pre0 _ ?_, hrun, hended, _, _, rfl, ?_, ⟨_, rfl⟩, hW, hsame.mono (by decide) (by decide)⟩
  · show Steps p.tables e below (s₁.setTop (mkF m 0 #[.val (.int (18 : Int32))] [])) _
    refine XS.iloadN X0.here hx rfl (hb hby d0_0) rfl ?_
    show Steps p.tables e below (s₁.setTop (mkF m 1 #[.val (.int (18 : Int32))] [(.int (18 : Int32))])) _
    refine XS.ifYes X0.here hx rfl (pc0 := 1) (pc' := 8) rfl (hb hby d0_1) rfl (by decide +kernel) (by decide) (by decide) ?_
    show Steps p.tables e below (s₁.setTop (mkF m 8 #[.val (.int (18 : Int32))] [])) _
    refine XS.iloadN X0.here hx rfl (hb hby d0_8) rfl ?_
    show Steps p.tables e below (s₁.setTop (mkF m 9 #[.val (.int (18 : Int32))] [(.int (18 : Int32))])) _
    refine XS.iconst X0.here hx rfl (hb hby d0_9) ?_
    show Steps p.tables e below (s₁.setTop (mkF m 10 #[.val (.int (18 : Int32))] [(.int (1 : Int32)), (.int (18 : Int32))])) _
    refine XS.icmpYes X0.here hx rfl (pc0 := 10) (pc' := 17) rfl (hb hby d0_10) rfl (by decide +kernel) (by decide) (by decide) ?_
    show Steps p.tables e below (s₁.setTop (mkF m 17 #[.val (.int (18 : Int32))] [])) _
    refine XS.iloadN X0.here hx rfl (hb hby d0_17) rfl ?_
    show Steps p.tables e below (s₁.setTop (mkF m 18 #[.val (.int (18 : Int32))] [(.int (18 : Int32))])) _
    refine XS.iconst X0.here hx rfl (hb hby d0_18) ?_
    show Steps p.tables e below (s₁.setTop (mkF m 19 #[.val (.int (18 : Int32))] [(.int (2 : Int32)), (.int (18 : Int32))])) _
    refine XS.icmpYes X0.here hx rfl (pc0 := 19) (pc' := 26) rfl (hb hby d0_19) rfl (by decide +kernel) (by decide) (by decide) ?_
    show Steps p.tables e below (s₁.setTop (mkF m 26 #[.val (.int (18 : Int32))] [])) _
    refine XS.iloadN X0.here hx rfl (hb hby d0_26) rfl ?_
    show Steps p.tables e below (s₁.setTop (mkF m 27 #[.val (.int (18 : Int32))] [(.int (18 : Int32))])) _
    refine XS.iconst X0.here hx rfl (hb hby d0_27) ?_
    show Steps p.tables e below (s₁.setTop (mkF m 28 #[.val (.int (18 : Int32))] [(.int (3 : Int32)), (.int (18 : Int32))])) _
    refine XS.icmpYes X0.here hx rfl (pc0 := 28) (pc' := 35) rfl (hb hby d0_28) rfl (by decide +kernel) (by decide) (by decide) ?_
    show Steps p.tables e below (s₁.setTop (mkF m 35 #[.val (.int (18 : Int32))] [])) _
    refine XS.iloadN X0.here hx rfl (hb hby d0_35) rfl ?_
    show Steps p.tables e below (s₁.setTop (mkF m 36 #[.val (.int (18 : Int32))] [(.int (18 : Int32))])) _
    refine XS.iconst X0.here hx rfl (hb hby d0_36) ?_
    show Steps p.tables e below (s₁.setTop (mkF m 37 #[.val (.int (18 : Int32))] [(.int (4 : Int32)), (.int (18 : Int32))])) _
    refine XS.icmpYes X0.here hx rfl (pc0 := 37) (pc' := 44) rfl (hb hby d0_37) rfl (by decide +kernel) (by decide) (by decide) ?_
    show Steps p.tables e below (s₁.setTop (mkF m 44 #[.val (.int (18 : Int32))] [])) _
    refine XS.iloadN X0.here hx rfl (hb hby d0_44) rfl ?_
    show Steps p.tables e below (s₁.setTop (mkF m 45 #[.val (.int (18 : Int32))] [(.int (18 : Int32))])) _
    refine XS.iconst X0.here hx rfl (hb hby d0_45) ?_
    show Steps p.tables e below (s₁.setTop (mkF m 46 #[.val (.int (18 : Int32))] [(.int (5 : Int32)), (.int (18 : Int32))])) _
    refine XS.icmpYes X0.here hx rfl (pc0 := 46) (pc' := 53) rfl (hb hby d0_46) rfl (by decide +kernel) (by decide) (by decide) ?_
    show Steps p.tables e below (s₁.setTop (mkF m 53 #[.val (.int (18 : Int32))] [])) _
    refine XS.iloadN X0.here hx rfl (hb hby d0_53) rfl ?_
    show Steps p.tables e below (s₁.setTop (mkF m 54 #[.val (.int (18 : Int32))] [(.int (18 : Int32))])) _
    refine XS.bipush X0.here hx rfl (hb hby d0_54) ?_
    show Steps p.tables e below (s₁.setTop (mkF m 56 #[.val (.int (18 : Int32))] [(.int (6 : Int32)), (.int (18 : Int32))])) _
    refine XS.icmpYes X0.here hx rfl (pc0 := 56) (pc' := 63) rfl (hb hby d0_56) rfl (by decide +kernel) (by decide) (by decide) ?_
    show Steps p.tables e below (s₁.setTop (mkF m 63 #[.val (.int (18 : Int32))] [])) _
    refine XS.iloadN X0.here hx rfl (hb hby d0_63) rfl ?_
    show Steps p.tables e below (s₁.setTop (mkF m 64 #[.val (.int (18 : Int32))] [(.int (18 : Int32))])) _
    refine XS.bipush X0.here hx rfl (hb hby d0_64) ?_
    show Steps p.tables e below (s₁.setTop (mkF m 66 #[.val (.int (18 : Int32))] [(.int (7 : Int32)), (.int (18 : Int32))])) _
    refine XS.icmpYes X0.here hx rfl (pc0 := 66) (pc' := 73) rfl (hb hby d0_66) rfl (by decide +kernel) (by decide) (by decide) ?_
    show Steps p.tables e below (s₁.setTop (mkF m 73 #[.val (.int (18 : Int32))] [])) _
    refine XS.iloadN X0.here hx rfl (hb hby d0_73) rfl ?_
    show Steps p.tables e below (s₁.setTop (mkF m 74 #[.val (.int (18 : Int32))] [(.int (18 : Int32))])) _
    refine XS.bipush X0.here hx rfl (hb hby d0_74) ?_
    show Steps p.tables e below (s₁.setTop (mkF m 76 #[.val (.int (18 : Int32))] [(.int (8 : Int32)), (.int (18 : Int32))])) _
    refine XS.icmpYes X0.here hx rfl (pc0 := 76) (pc' := 83) rfl (hb hby d0_76) rfl (by decide +kernel) (by decide) (by decide) ?_
    show Steps p.tables e below (s₁.setTop (mkF m 83 #[.val (.int (18 : Int32))] [])) _
    refine XS.iloadN X0.here hx rfl (hb hby d0_83) rfl ?_
    show Steps p.tables e below (s₁.setTop (mkF m 84 #[.val (.int (18 : Int32))] [(.int (18 : Int32))])) _
    refine XS.bipush X0.here hx rfl (hb hby d0_84) ?_
    show Steps p.tables e below (s₁.setTop (mkF m 86 #[.val (.int (18 : Int32))] [(.int (9 : Int32)), (.int (18 : Int32))])) _
    refine XS.icmpYes X0.here hx rfl (pc0 := 86) (pc' := 93) rfl (hb hby d0_86) rfl (by decide +kernel) (by decide) (by decide) ?_
    show Steps p.tables e below (s₁.setTop (mkF m 93 #[.val (.int (18 : Int32))] [])) _
    refine XS.iloadN X0.here hx rfl (hb hby d0_93) rfl ?_
    show Steps p.tables e below (s₁.setTop (mkF m 94 #[.val (.int (18 : Int32))] [(.int (18 : Int32))])) _
    refine XS.bipush X0.here hx rfl (hb hby d0_94) ?_
    show Steps p.tables e below (s₁.setTop (mkF m 96 #[.val (.int (18 : Int32))] [(.int (10 : Int32)), (.int (18 : Int32))])) _
    refine XS.icmpYes X0.here hx rfl (pc0 := 96) (pc' := 103) rfl (hb hby d0_96) rfl (by decide +kernel) (by decide) (by decide) ?_
    show Steps p.tables e below (s₁.setTop (mkF m 103 #[.val (.int (18 : Int32))] [])) _
    refine XS.iloadN X0.here hx rfl (hb hby d0_103) rfl ?_
    show Steps p.tables e below (s₁.setTop (mkF m 104 #[.val (.int (18 : Int32))] [(.int (18 : Int32))])) _
    refine XS.bipush X0.here hx rfl (hb hby d0_104) ?_
    show Steps p.tables e below (s₁.setTop (mkF m 106 #[.val (.int (18 : Int32))] [(.int (11 : Int32)), (.int (18 : Int32))])) _
    refine XS.icmpYes X0.here hx rfl (pc0 := 106) (pc' := 113) rfl (hb hby d0_106) rfl (by decide +kernel) (by decide) (by decide) ?_
    show Steps p.tables e below (s₁.setTop (mkF m 113 #[.val (.int (18 : Int32))] [])) _
    refine XS.iloadN X0.here hx rfl (hb hby d0_113) rfl ?_
    show Steps p.tables e below (s₁.setTop (mkF m 114 #[.val (.int (18 : Int32))] [(.int (18 : Int32))])) _
    refine XS.bipush X0.here hx rfl (hb hby d0_114) ?_
    show Steps p.tables e below (s₁.setTop (mkF m 116 #[.val (.int (18 : Int32))] [(.int (12 : Int32)), (.int (18 : Int32))])) _
    refine XS.icmpYes X0.here hx rfl (pc0 := 116) (pc' := 123) rfl (hb hby d0_116) rfl (by decide +kernel) (by decide) (by decide) ?_
    show Steps p.tables e below (s₁.setTop (mkF m 123 #[.val (.int (18 : Int32))] [])) _
    refine XS.iloadN X0.here hx rfl (hb hby d0_123) rfl ?_
    show Steps p.tables e below (s₁.setTop (mkF m 124 #[.val (.int (18 : Int32))] [(.int (18 : Int32))])) _
    refine XS.bipush X0.here hx rfl (hb hby d0_124) ?_
    show Steps p.tables e below (s₁.setTop (mkF m 126 #[.val (.int (18 : Int32))] [(.int (13 : Int32)), (.int (18 : Int32))])) _
    refine XS.icmpYes X0.here hx rfl (pc0 := 126) (pc' := 133) rfl (hb hby d0_126) rfl (by decide +kernel) (by decide) (by decide) ?_
    show Steps p.tables e below (s₁.setTop (mkF m 133 #[.val (.int (18 : Int32))] [])) _
    refine XS.iloadN X0.here hx rfl (hb hby d0_133) rfl ?_
    show Steps p.tables e below (s₁.setTop (mkF m 134 #[.val (.int (18 : Int32))] [(.int (18 : Int32))])) _
    refine XS.bipush X0.here hx rfl (hb hby d0_134) ?_
    show Steps p.tables e below (s₁.setTop (mkF m 136 #[.val (.int (18 : Int32))] [(.int (14 : Int32)), (.int (18 : Int32))])) _
    refine XS.icmpYes X0.here hx rfl (pc0 := 136) (pc' := 143) rfl (hb hby d0_136) rfl (by decide +kernel) (by decide) (by decide) ?_
    show Steps p.tables e below (s₁.setTop (mkF m 143 #[.val (.int (18 : Int32))] [])) _
    refine XS.iloadN X0.here hx rfl (hb hby d0_143) rfl ?_
    show Steps p.tables e below (s₁.setTop (mkF m 144 #[.val (.int (18 : Int32))] [(.int (18 : Int32))])) _
    refine XS.bipush X0.here hx rfl (hb hby d0_144) ?_
    show Steps p.tables e below (s₁.setTop (mkF m 146 #[.val (.int (18 : Int32))] [(.int (15 : Int32)), (.int (18 : Int32))])) _
    refine XS.icmpYes X0.here hx rfl (pc0 := 146) (pc' := 153) rfl (hb hby d0_146) rfl (by decide +kernel) (by decide) (by decide) ?_
    show Steps p.tables e below (s₁.setTop (mkF m 153 #[.val (.int (18 : Int32))] [])) _
    refine XS.iloadN X0.here hx rfl (hb hby d0_153) rfl ?_
    show Steps p.tables e below (s₁.setTop (mkF m 154 #[.val (.int (18 : Int32))] [(.int (18 : Int32))])) _
    refine XS.bipush X0.here hx rfl (hb hby d0_154) ?_
    show Steps p.tables e below (s₁.setTop (mkF m 156 #[.val (.int (18 : Int32))] [(.int (16 : Int32)), (.int (18 : Int32))])) _
    refine XS.icmpYes X0.here hx rfl (pc0 := 156) (pc' := 163) rfl (hb hby d0_156) rfl (by decide +kernel) (by decide) (by decide) ?_
    show Steps p.tables e below (s₁.setTop (mkF m 163 #[.val (.int (18 : Int32))] [])) _
    refine XS.iloadN X0.here hx rfl (hb hby d0_163) rfl ?_
    show Steps p.tables e below (s₁.setTop (mkF m 164 #[.val (.int (18 : Int32))] [(.int (18 : Int32))])) _
    refine XS.bipush X0.here hx rfl (hb hby d0_164) ?_
    show Steps p.tables e below (s₁.setTop (mkF m 166 #[.val (.int (18 : Int32))] [(.int (17 : Int32)), (.int (18 : Int32))])) _
    refine XS.icmpYes X0.here hx rfl (pc0 := 166) (pc' := 173) rfl (hb hby d0_166) rfl (by decide +kernel) (by decide) (by decide) ?_
    show Steps p.tables e below (s₁.setTop (mkF m 173 #[.val (.int (18 : Int32))] [])) _
    refine st1 _ ?_
    show Steps p.tables e below (T1.setTop (mkF m 176 #[.val (.int (18 : Int32))] [(.ref s_VENDOR_DEFINED)])) _
    exact retOut X1 hx (i := .areturn) Bd.returns rfl (Or.inr (Or.inr (Or.inr (Or.inr ⟨rfl, rfl, rfl⟩)))) (hb hby d0_176) hr
  · exact ⟨rfl, N0, e1⟩
set_option maxRecDepth 65536 in
set_option maxHeartbeats 40000000 in
theorem r73 (l : Launch) (Z : State) (a0 : Array Value) (hw : ∀ d ∈ tables_1, d.before a0 Z = true) (ws : List Jvm.Cond) (h0 : Heap) (n0 : Nat) (s_NO_OP : Addr) (s_END_OF_CONSTRUCTOR : Addr) (s_ASCII_STRING : Addr) (s_BOOLEAN : Addr) (s_UNIQUE_ID : Addr) (s_SEQUENCE : Addr) (s_SET : Addr) (s_INTEGER : Addr) (s_PADDING : Addr) (s_PROPERTY_LIST : Addr) (s_DATE : Addr) (s_BIT_STRING : Addr) (t_BIT_STRING_qualifierTag : Addr) (s_PROPERTY : Addr) (s_FIELD : Addr) (t_FIELD_qualifierTag : Addr) (s_COMPRESSED : Addr) (s_ENCRYPTED : Addr) (t_ENCRYPTED_qualifierTag : Addr) (s_MESSAGE : Addr) (t_MESSAGE_qualifierTag : Addr) (s_EXTENSION : Addr) (s_VENDOR_DEFINED : Addr) (K : Ctx Z h0 s_NO_OP s_END_OF_CONSTRUCTOR s_ASCII_STRING s_BOOLEAN s_UNIQUE_ID s_SEQUENCE s_SET s_INTEGER s_PADDING s_PROPERTY_LIST s_DATE s_BIT_STRING t_BIT_STRING_qualifierTag s_PROPERTY s_FIELD t_FIELD_qualifierTag s_COMPRESSED s_ENCRYPTED t_ENCRYPTED_qualifierTag s_MESSAGE t_MESSAGE_qualifierTag s_EXTENSION s_VENDOR_DEFINED) :
    MetFree l (⟨"com/example/plainwire/plainwire/rfc806/Element", "qualified", "()Z"⟩ : MethodName) (head1 (Jvm.Cond.code (⟨"com/example/plainwire/plainwire/rfc806/Element", "qualified", "()Z"⟩ : MethodName) prog_101_method_9_code 1 (some .boolean) :: ws) ({ frames := 0, cells := 0, slots := 0, locals := 0 } : Room)) (fun a U => a = #[(.ref s_VENDOR_DEFINED)] ∧ Z.Warmed39 U.vm ∧ U.heap = h0) (fun _ _ _ _ _ => True) (fun _ U o U' => ∃ v L, o = .returned v ∧ QV (.int (1 : Int32)) h0 n0 v U'.heap L ∧ FrameEnd U o U' L ({ frames := 0, cells := 0, slots := 0, locals := 0 } : Room).cells ({ frames := 0, cells := 0, slots := 0, locals := 0 } : Room).slots) := by
  obtain ⟨S_NO_OP, F_NO_OP_code, E_NO_OP, F_NO_OP_qualifierTag, S_END_OF_CONSTRUCTOR, F_END_OF_CONSTRUCTOR_code, E_END_OF_CONSTRUCTOR, F_END_OF_CONSTRUCTOR_qualifierTag, S_ASCII_STRING, F_ASCII_STRING_code, E_ASCII_STRING, F_ASCII_STRING_qualifierTag, S_BOOLEAN, F_BOOLEAN_code, E_BOOLEAN, F_BOOLEAN_qualifierTag, S_UNIQUE_ID, F_UNIQUE_ID_code, E_UNIQUE_ID, F_UNIQUE_ID_qualifierTag, S_SEQUENCE, F_SEQUENCE_code, E_SEQUENCE, F_SEQUENCE_qualifierTag, S_SET, F_SET_code, E_SET, F_SET_qualifierTag, S_INTEGER, F_INTEGER_code, E_INTEGER, F_INTEGER_qualifierTag, S_PADDING, F_PADDING_code, E_PADDING, F_PADDING_qualifierTag, S_PROPERTY_LIST, F_PROPERTY_LIST_code, E_PROPERTY_LIST, F_PROPERTY_LIST_qualifierTag, S_DATE, F_DATE_code, E_DATE, F_DATE_qualifierTag, S_BIT_STRING, F_BIT_STRING_code, E_BIT_STRING, F_BIT_STRING_qualifierTag, S_PROPERTY, F_PROPERTY_code, E_PROPERTY, F_PROPERTY_qualifierTag, S_COMPRESSED, F_COMPRESSED_code, E_COMPRESSED, F_COMPRESSED_qualifierTag, S_ENCRYPTED, F_ENCRYPTED_code, E_ENCRYPTED, F_ENCRYPTED_qualifierTag, S_FIELD, F_FIELD_code, E_FIELD, F_FIELD_qualifierTag, S_MESSAGE, F_MESSAGE_code, E_MESSAGE, F_MESSAGE_qualifierTag, S_EXTENSION, F_EXTENSION_code, E_EXTENSION, F_EXTENSION_qualifierTag, S_VENDOR_DEFINED, F_VENDOR_DEFINED_code, E_VENDOR_DEFINED, F_VENDOR_DEFINED_qualifierTag⟩ := id K
  refine MetFree.of_bodySF (plainFor_of_name pn1) hisR ?_
  intro p e s m args below meth c s₁ Bd hml0 hP hK
  obtain ⟨rfl, hZ, hh⟩ := hP
  have hx := Bd.exec
  have hby := Bd.bytes
  have hml : c.maxLocals = 1 := hml0
  have hown : s.vm.findClass "com/example/plainwire/plainwire/rfc806/Element" = some m.cls := findClass_of_methodNamed Bd.named
  have X0 : Stand p l e ({ frames := 0, cells := 0, slots := 0, locals := 0 } : Room) s m #[(.ref s_VENDOR_DEFINED)] below meth c s₁ [] 0 0 := Stand.of_body Bd
  have e0 : s₁.heap = h0 := by rw [← hh, Bd.state]; rfl
  have N0 := Fr.nil n0
  have pre0 : ∀ t, Steps p.tables e below (s₁.setTop (mkF m 0 #[.val (.ref s_VENDOR_DEFINED)] [])) t → Steps p.tables e below (s₁.setTop (entryFrame m #[(.ref s_VENDOR_DEFINED)] 1)) t := fun t k => castTop (by first | (simp [entryFrame, mkF, argsToLocals, Value.category]; done) | rfl) k
  obtain ⟨T1, X1, e1, st1⟩ := getF X0 hx hZ hown (host := "") (Or.inl (hw _ (List.mem_of_getElem? (i := 13) rfl))) Via.refl e0 F_VENDOR_DEFINED_code (g := (mkF m 1 #[.val (.ref s_VENDOR_DEFINED)] [(.ref s_VENDOR_DEFINED)])) rfl rfl (hb hby d1_1)
  obtain ⟨fs, hr, hrun, hended, hW, hsame⟩ := X1.leave (v := some (.int (1 : Int32))) (fun h => by rw [Bd.returns] at h; cases h)
  refine ⟨_, _, pre0 _ ?_, hrun, hended, _, _, rfl, ?_, ⟨_, rfl⟩, hW, hsame.mono (by decide) (by decide)⟩
  · show Steps p.tables e below (s₁.setTop (mkF m 0 #[.val (.ref s_VENDOR_DEFINED)] [])) _
    refine XS.aloadN X0.here hx rfl (hb hby d1_0) rfl rfl ?_
    show Steps p.tables e below (s₁.setTop (mkF m 1 #[.val (.ref s_VENDOR_DEFINED)] [(.ref s_VENDOR_DEFINED)])) _
    refine st1 _ ?_
    show Steps p.tables e below (T1.setTop (mkF m 4 #[.val (.ref s_VENDOR_DEFINED)] [(.int (127 : Int32))])) _
    refine XS.bipush X1.here hx rfl (hb hby d1_4) ?_
    show Steps p.tables e below (T1.setTop (mkF m 6 #[.val (.ref s_VENDOR_DEFINED)] [(.int (64 : Int32)), (.int (127 : Int32))])) _
    refine XS.iand X1.here hx rfl (hb hby d1_6) rfl ?_
    show Steps p.tables e below (T1.setTop (mkF m 7 #[.val (.ref s_VENDOR_DEFINED)] [(.int ((127 : Int32) &&& (64 : Int32)))])) _
    rw [show ((127 : Int32) &&& (64 : Int32)) = (64 : Int32) from by decide +kernel]
    show Steps p.tables e below (T1.setTop (mkF m 7 #[.val (.ref s_VENDOR_DEFINED)] [(.int (64 : Int32))])) _
    refine XS.ifNo X1.here hx rfl (hb hby d1_7) rfl (by decide +kernel) ?_
    show Steps p.tables e below (T1.setTop (mkF m 10 #[.val (.ref s_VENDOR_DEFINED)] [])) _
    refine XS.iconst X1.here hx rfl (hb hby d1_10) ?_
    show Steps p.tables e below (T1.setTop (mkF m 11 #[.val (.ref s_VENDOR_DEFINED)] [(.int (1 : Int32))])) _
    refine XS.goto X1.here hx rfl (pc0 := 11) (pc' := 15) rfl (hb hby d1_11) (by decide) (by decide) ?_
    show Steps p.tables e below (T1.setTop (mkF m 15 #[.val (.ref s_VENDOR_DEFINED)] [(.int (1 : Int32))])) _
    exact retN X1 hx (t := .boolean) Bd.returns (by simp) (hb hby d1_15) hr
  · exact ⟨rfl, N0, e1⟩
set_option maxRecDepth 65536 in
set_option maxHeartbeats 40000000 in
theorem r74 (l : Launch) (Z : State) (a0 : Array Value) (hw : ∀ d ∈ tables_1, d.before a0 Z = true) (ws : List Jvm.Cond) (h0 : Heap) (n0 : Nat) (s_NO_OP : Addr) (s_END_OF_CONSTRUCTOR : Addr) (s_ASCII_STRING : Addr) (s_BOOLEAN : Addr) (s_UNIQUE_ID : Addr) (s_SEQUENCE : Addr) (s_SET : Addr) (s_INTEGER : Addr) (s_PADDING : Addr) (s_PROPERTY_LIST : Addr) (s_DATE : Addr) (s_BIT_STRING : Addr) (t_BIT_STRING_qualifierTag : Addr) (s_PROPERTY : Addr) (s_FIELD : Addr) (t_FIELD_qualifierTag : Addr) (s_COMPRESSED : Addr) (s_ENCRYPTED : Addr) (t_ENCRYPTED_qualifierTag : Addr) (s_MESSAGE : Addr) (t_MESSAGE_qualifierTag : Addr) (s_EXTENSION : Addr) (s_VENDOR_DEFINED : Addr) (K : Ctx Z h0 s_NO_OP s_END_OF_CONSTRUCTOR s_ASCII_STRING s_BOOLEAN s_UNIQUE_ID s_SEQUENCE s_SET s_INTEGER s_PADDING s_PROPERTY_LIST s_DATE s_BIT_STRING t_BIT_STRING_qualifierTag s_PROPERTY s_FIELD t_FIELD_qualifierTag s_COMPRESSED s_ENCRYPTED t_ENCRYPTED_qualifierTag s_MESSAGE t_MESSAGE_qualifierTag s_EXTENSION s_VENDOR_DEFINED) :
    MetFree l (⟨"com/example/plainwire/plainwire/rfc806/Element", "qualifierTag", "()Ljava/lang/String;"⟩ : MethodName) (head1 (Jvm.Cond.code (⟨"com/example/plainwire/plainwire/rfc806/Element", "qualifierTag", "()Ljava/lang/String;"⟩ : MethodName) prog_101_method_10_code 1 (some (.object "java/lang/String")) :: ws) ({ frames := 0, cells := 0, slots := 0, locals := 0 } : Room)) (fun a U => a = #[(.ref s_VENDOR_DEFINED)] ∧ Z.Warmed39 U.vm ∧ U.heap = h0) (fun _ _ _ _ _ => True) (fun _ U o U' => ∃ v L, o = .returned v ∧ QV (.ref t_FIELD_qualifierTag) h0 n0 v U'.heap L ∧ FrameEnd U o U' L ({ frames := 0, cells := 0, slots := 0, locals := 0 } : Room).cells ({ frames := 0, cells := 0, slots := 0, locals := 0 } : Room).slots) := by
  obtain ⟨S_NO_OP, F_NO_OP_code, E_NO_OP, F_NO_OP_qualifierTag, S_END_OF_CONSTRUCTOR, F_END_OF_CONSTRUCTOR_code, E_END_OF_CONSTRUCTOR, F_END_OF_CONSTRUCTOR_qualifierTag, S_ASCII_STRING, F_ASCII_STRING_code, E_ASCII_STRING, F_ASCII_STRING_qualifierTag, S_BOOLEAN, F_BOOLEAN_code, E_BOOLEAN, F_BOOLEAN_qualifierTag, S_UNIQUE_ID, F_UNIQUE_ID_code, E_UNIQUE_ID, F_UNIQUE_ID_qualifierTag, S_SEQUENCE, F_SEQUENCE_code, E_SEQUENCE, F_SEQUENCE_qualifierTag, S_SET, F_SET_code, E_SET, F_SET_qualifierTag, S_INTEGER, F_INTEGER_code, E_INTEGER, F_INTEGER_qualifierTag, S_PADDING, F_PADDING_code, E_PADDING, F_PADDING_qualifierTag, S_PROPERTY_LIST, F_PROPERTY_LIST_code, E_PROPERTY_LIST, F_PROPERTY_LIST_qualifierTag, S_DATE, F_DATE_code, E_DATE, F_DATE_qualifierTag, S_BIT_STRING, F_BIT_STRING_code, E_BIT_STRING, F_BIT_STRING_qualifierTag, S_PROPERTY, F_PROPERTY_code, E_PROPERTY, F_PROPERTY_qualifierTag, S_COMPRESSED, F_COMPRESSED_code, E_COMPRESSED, F_COMPRESSED_qualifierTag, S_ENCRYPTED, F_ENCRYPTED_code, E_ENCRYPTED, F_ENCRYPTED_qualifierTag, S_FIELD, F_FIELD_code, E_FIELD, F_FIELD_qualifierTag, S_MESSAGE, F_MESSAGE_code, E_MESSAGE, F_MESSAGE_qualifierTag, S_EXTENSION, F_EXTENSION_code, E_EXTENSION, F_EXTENSION_qualifierTag, S_VENDOR_DEFINED, F_VENDOR_DEFINED_code, E_VENDOR_DEFINED, F_VENDOR_DEFINED_qualifierTag⟩ := id K
  refine MetFree.of_bodySF (plainFor_of_name pn2) hisR ?_
  intro p e s m args below meth c s₁ Bd hml0 hP hK
  obtain ⟨rfl, hZ, hh⟩ := hP
  have hx := Bd.exec
  have hby := Bd.bytes
  have hml : c.maxLocals = 1 := hml0
  have hown : s.vm.findClass "com/example/plainwire/plainwire/rfc806/Element" = some m.cls := findClass_of_methodNamed Bd.named
  have X0 : Stand p l e ({ frames := 0, cells := 0, slots := 0, locals := 0 } : Room) s m #[(.ref s_VENDOR_DEFINED)] below meth c s₁ [] 0 0 := Stand.of_body Bd
  have e0 : s₁.heap = h0 := by rw [← hh, Bd.state]; rfl
  have N0 := Fr.nil n0
  have pre0 : ∀ t, Steps p.tables e below (s₁.setTop (mkF m 0 #[.val (.ref s_VENDOR_DEFINED)] [])) t → Steps p.tables e below (s₁.setTop (entryFrame m #[(.ref s_VENDOR_DEFINED)] 1)) t := fun t k => castTop (by first | (simp [entryFrame, mkF, argsToLocals, Value.category]; done) | rfl) k
  obtain ⟨T1, X1, e1, st1⟩ := getF X0 hx hZ hown (host := "") (Or.inl (hw _ (List.mem_of_getElem? (i := 20) rfl))) Via.refl e0 F_VENDOR_DEFINED_qualifierTag (g := (mkF m 1 #[.val (.ref s_VENDOR_DEFINED)] [(.ref s_VENDOR_DEFINED)])) rfl rfl (hb hby d2_1)
  obtain ⟨fs, hr, hrun, hended, hW, hsame⟩ := X1.leave (v := some (.ref t_FIELD_qualifierTag)) (fun h => by rw [Bd.returns] at h; cases h)
  refine ⟨_, _, pre0 _ ?_, hrun, hended, _, _, rfl, ?_, ⟨_, rfl⟩, hW, hsame.mono (by decide) (by decide)⟩
  · show Steps p.tables e below (s₁.setTop (mkF m 0 #[.val (.ref s_VENDOR_DEFINED)] [])) _
    refine XS.aloadN X0.here hx rfl (hb hby d2_0) rfl rfl ?_
    show Steps p.tables e below (s₁.setTop (mkF m 1 #[.val (.ref s_VENDOR_DEFINED)] [(.ref s_VENDOR_DEFINED)])) _
    refine st1 _ ?_
    show Steps p.tables e below (T1.setTop (mkF m 4 #[.val (.ref s_VENDOR_DEFINED)] [(.ref t_FIELD_qualifierTag)])) _
    exact retOut X1 hx (i := .areturn) Bd.returns rfl (Or.inr (Or.inr (Or.inr (Or.inr ⟨rfl, rfl, rfl⟩)))) (hb hby d2_4) hr
  · exact ⟨rfl, N0, e1⟩
set_option maxRecDepth 65536 in
set_option maxHeartbeats 40000000 in
theorem law_k18 (l : Launch) (Z : State) (a0 : Array Value) (hw : ∀ d ∈ tables_1, d.before a0 Z = true) (ws : List Jvm.Cond) (h0 : Heap) (n0 : Nat) (s_NO_OP : Addr) (s_END_OF_CONSTRUCTOR : Addr) (s_ASCII_STRING : Addr) (s_BOOLEAN : Addr) (s_UNIQUE_ID : Addr) (s_SEQUENCE : Addr) (s_SET : Addr) (s_INTEGER : Addr) (s_PADDING : Addr) (s_PROPERTY_LIST : Addr) (s_DATE : Addr) (s_BIT_STRING : Addr) (t_BIT_STRING_qualifierTag : Addr) (s_PROPERTY : Addr) (s_FIELD : Addr) (t_FIELD_qualifierTag : Addr) (s_COMPRESSED : Addr) (s_ENCRYPTED : Addr) (t_ENCRYPTED_qualifierTag : Addr) (s_MESSAGE : Addr) (t_MESSAGE_qualifierTag : Addr) (s_EXTENSION : Addr) (s_VENDOR_DEFINED : Addr) (K : Ctx Z h0 s_NO_OP s_END_OF_CONSTRUCTOR s_ASCII_STRING s_BOOLEAN s_UNIQUE_ID s_SEQUENCE s_SET s_INTEGER s_PADDING s_PROPERTY_LIST s_DATE s_BIT_STRING t_BIT_STRING_qualifierTag s_PROPERTY s_FIELD t_FIELD_qualifierTag s_COMPRESSED s_ENCRYPTED t_ENCRYPTED_qualifierTag s_MESSAGE t_MESSAGE_qualifierTag s_EXTENSION s_VENDOR_DEFINED) (p0 : Int32) (hp0 : ((p0 &&& (2147483647 : Int32)) % (19 : Int32)) = (18 : Int32)) :
    MetFree l x (head1 (Jvm.Cond.code x code maxLocals ret :: ws) room_1) (fun a U => a = #[(.int p0)] ∧ Z.Warmed39 U.vm ∧ U.heap = h0) (fun _ _ _ _ _ => True) (fun _ U o U' => ∃ v L, o = .returned v ∧ QV (.int (1 : Int32)) h0 n0 v U'.heap L ∧ FrameEnd U o U' L room_1.cells room_1.slots) := by
  obtain ⟨S_NO_OP, F_NO_OP_code, E_NO_OP, F_NO_OP_qualifierTag, S_END_OF_CONSTRUCTOR, F_END_OF_CONSTRUCTOR_code, E_END_OF_CONSTRUCTOR, F_END_OF_CONSTRUCTOR_qualifierTag, S_ASCII_STRING, F_ASCII_STRING_code, E_ASCII_STRING, F_ASCII_STRING_qualifierTag, S_BOOLEAN, F_BOOLEAN_code, E_BOOLEAN, F_BOOLEAN_qualifierTag, S_UNIQUE_ID, F_UNIQUE_ID_code, E_UNIQUE_ID, F_UNIQUE_ID_qualifierTag, S_SEQUENCE, F_SEQUENCE_code, E_SEQUENCE, F_SEQUENCE_qualifierTag, S_SET, F_SET_code, E_SET, F_SET_qualifierTag, S_INTEGER, F_INTEGER_code, E_INTEGER, F_INTEGER_qualifierTag, S_PADDING, F_PADDING_code, E_PADDING, F_PADDING_qualifierTag, S_PROPERTY_LIST, F_PROPERTY_LIST_code, E_PROPERTY_LIST, F_PROPERTY_LIST_qualifierTag, S_DATE, F_DATE_code, E_DATE, F_DATE_qualifierTag, S_BIT_STRING, F_BIT_STRING_code, E_BIT_STRING, F_BIT_STRING_qualifierTag, S_PROPERTY, F_PROPERTY_code, E_PROPERTY, F_PROPERTY_qualifierTag, S_COMPRESSED, F_COMPRESSED_code, E_COMPRESSED, F_COMPRESSED_qualifierTag, S_ENCRYPTED, F_ENCRYPTED_code, E_ENCRYPTED, F_ENCRYPTED_qualifierTag, S_FIELD, F_FIELD_code, E_FIELD, F_FIELD_qualifierTag, S_MESSAGE, F_MESSAGE_code, E_MESSAGE, F_MESSAGE_qualifierTag, S_EXTENSION, F_EXTENSION_code, E_EXTENSION, F_EXTENSION_qualifierTag, S_VENDOR_DEFINED, F_VENDOR_DEFINED_code, E_VENDOR_DEFINED, F_VENDOR_DEFINED_qualifierTag⟩ := id K
  refine MetFree.of_bodySF (plainFor_of_name pn3) hisR ?_
  intro p e s m args below meth c s₁ Bd hml0 hP hK
  obtain ⟨rfl, hZ, hh⟩ := hP
  have hx := Bd.exec
  have hby := Bd.bytes
  have hml : c.maxLocals = 6 := hml0
  have hown : s.vm.findClass "com/example/plainwire/plainwire/rfc806/ElementQualifiedPinLaw" = some m.cls := findClass_of_methodNamed Bd.named
  have X0 : Stand p l e room_1 s m #[(.int p0)] below meth c s₁ [] 0 0 := Stand.of_body Bd
  have e0 : s₁.heap = h0 := by rw [← hh, Bd.state]; rfl
  have N0 := Fr.nil n0
  have pre0 : ∀ t, Steps p.tables e below (s₁.setTop (mkF m 0 #[.val (.int p0), .unset, .unset, .unset, .unset, .unset] [])) t → Steps p.tables e below (s₁.setTop (entryFrame m #[(.int p0)] maxLocals)) t := fun t k => castTop (by first | (simp [entryFrame, mkF, argsToLocals, Value.category, maxLocals]; done) | rfl) k
  obtain ⟨_, _, ⟨T1, L1, k1, n1⟩, -, X1, ⟨Lc1, hQ1, l1, y1, z1⟩, st1⟩ := Jvm.LawKit.callS X0 hx (y := (⟨"com/example/plainwire/plainwire/rfc806/ElementQualifiedPinLaw", "pick", "(I)Lcom/example/plainwire/plainwire/rfc806/Element;"⟩ : MethodName)) hown (mvT hZ (hw _ (List.mem_of_getElem? (i := 1) rfl))) (mvT hZ (hw _ (List.mem_of_getElem? (i := 2) rfl))) (mvT hZ (hw _ (List.mem_of_getElem? (i := 3) rfl))) (mvT hZ (hw _ (List.mem_of_getElem? (i := 4) rfl))) (by decide) (backOf (W := 0) (r72 l Z a0 hw [] h0 n0 s_NO_OP s_END_OF_CONSTRUCTOR s_ASCII_STRING s_BOOLEAN s_UNIQUE_ID s_SEQUENCE s_SET s_INTEGER s_PADDING s_PROPERTY_LIST s_DATE s_BIT_STRING t_BIT_STRING_qualifierTag s_PROPERTY s_FIELD t_FIELD_qualifierTag s_COMPRESSED s_ENCRYPTED t_ENCRYPTED_qualifierTag s_MESSAGE t_MESSAGE_qualifierTag s_EXTENSION s_VENDOR_DEFINED K) hZ (hw _ (List.mem_of_getElem? (i := 4) rfl)) (hw _ (List.mem_of_getElem? (i := 3) rfl)) (by decide) (by decide)) (g := (mkF m 9 #[.val (.int p0), .val (.int (18 : Int32)), .unset, .unset, .unset, .unset] [(.int (18 : Int32))])) rfl (by rw [hml]; rfl) (argsL := [(.int (18 : Int32))]) (rest := []) (lenOf pd0 rfl) rfl (by show 2 * 0 + _ ≤ _; exact Nat.le_of_eq rfl) (hb hby at_9) (fun _ _ => ⟨rfl, e0, (by decide : 0 + 0 ≤ _), (by decide : 0 + 0 ≤ _)⟩)
  dsimp only [Pt.U, Pt.locs, Pt.cells, Pt.slots] at X1 l1 y1 z1 st1 hQ1
  subst l1 y1 z1
  obtain ⟨rfl, N1q, e1⟩ := hQ1
  have N1 := Fr.app N0 N1q
  obtain ⟨cq2, kq2, q2a, q2b, q2c⟩ := isOf hZ e1 E_VENDOR_DEFINED
  obtain ⟨_, _, ⟨T2, L2, k2, n2⟩, -, X2, ⟨Lc2, hQ2, l2, y2, z2⟩, st2⟩ := X1.virtualBack hx (y := (⟨"com/example/plainwire/plainwire/rfc806/Element", "qualified", "()Z"⟩ : MethodName)) (z := (⟨"com/example/plainwire/plainwire/rfc806/Element", "qualified", "()Z"⟩ : MethodName)) hown (mvT hZ (hw _ (List.mem_of_getElem? (i := 8) rfl))) (mvT hZ (hw _ (List.mem_of_getElem? (i := 9) rfl))) (notFace_of_selects (args := #[]) (mvT hZ (hw _ (List.mem_of_getElem? (i := 11) rfl)))) (mvT hZ (hw _ (List.mem_of_getElem? (i := 11) rfl))) (mvT hZ (hw _ (List.mem_of_getElem? (i := 10) rfl))) (by decide) (backOf (W := 0) (r73 l Z a0 hw [] h0 n0 s_NO_OP s_END_OF_CONSTRUCTOR s_ASCII_STRING s_BOOLEAN s_UNIQUE_ID s_SEQUENCE s_SET s_INTEGER s_PADDING s_PROPERTY_LIST s_DATE s_BIT_STRING t_BIT_STRING_qualifierTag s_PROPERTY s_FIELD t_FIELD_qualifierTag s_COMPRESSED s_ENCRYPTED t_ENCRYPTED_qualifierTag s_MESSAGE t_MESSAGE_qualifierTag s_EXTENSION s_VENDOR_DEFINED K) hZ (hw _ (List.mem_of_getElem? (i := 12) rfl)) (hw _ (List.mem_of_getElem? (i := 6) rfl)) (by decide) (by decide)) q2a q2c (g := (mkF m 26 #[.val (.int p0), .val (.int (18 : Int32)), .val (.ref s_VENDOR_DEFINED), .val (.int (1 : Int32)), .unset, .unset] [(.ref s_VENDOR_DEFINED)])) rfl (by rw [hml]; rfl) (Steps.refl _) (argsL := []) (rest := []) (lenOf pd1 rfl) rfl (by show 2 * 0 + _ ≤ _; exact Nat.le_of_eq rfl) (hb hby at_26) (fun _ _ => ⟨rfl, e1, (by decide : 0 + 0 ≤ _), (by decide : 0 + 0 ≤ _)⟩)
  dsimp only [Pt.U, Pt.locs, Pt.cells, Pt.slots] at X2 l2 y2 z2 st2 hQ2
  subst l2 y2 z2
  obtain ⟨rfl, N2q, e2⟩ := hQ2
  have N2 := Fr.app N1 N2q
  obtain ⟨cq3, kq3, q3a, q3b, q3c⟩ := isOf hZ e2 E_VENDOR_DEFINED
  obtain ⟨_, _, ⟨T3, L3, k3, n3⟩, -, X3, ⟨Lc3, hQ3, l3, y3, z3⟩, st3⟩ := X2.virtualBack hx (y := (⟨"com/example/plainwire/plainwire/rfc806/Element", "qualifierTag", "()Ljava/lang/String;"⟩ : MethodName)) (z := (⟨"com/example/plainwire/plainwire/rfc806/Element", "qualifierTag", "()Ljava/lang/String;"⟩ : MethodName)) hown (mvT hZ (hw _ (List.mem_of_getElem? (i := 15) rfl))) (mvT hZ (hw _ (List.mem_of_getElem? (i := 16) rfl))) (notFace_of_selects (args := #[]) (mvT hZ (hw _ (List.mem_of_getElem? (i := 18) rfl)))) (mvT hZ (hw _ (List.mem_of_getElem? (i := 18) rfl))) (mvT hZ (hw _ (List.mem_of_getElem? (i := 17) rfl))) (by decide) (backOf (W := 0) (r74 l Z a0 hw [] h0 n0 s_NO_OP s_END_OF_CONSTRUCTOR s_ASCII_STRING s_BOOLEAN s_UNIQUE_ID s_SEQUENCE s_SET s_INTEGER s_PADDING s_PROPERTY_LIST s_DATE s_BIT_STRING t_BIT_STRING_qualifierTag s_PROPERTY s_FIELD t_FIELD_qualifierTag s_COMPRESSED s_ENCRYPTED t_ENCRYPTED_qualifierTag s_MESSAGE t_MESSAGE_qualifierTag s_EXTENSION s_VENDOR_DEFINED K) hZ (hw _ (List.mem_of_getElem? (i := 19) rfl)) (hw _ (List.mem_of_getElem? (i := 6) rfl)) (by decide) (by decide)) q3a q3c (g := (mkF m 32 #[.val (.int p0), .val (.int (18 : Int32)), .val (.ref s_VENDOR_DEFINED), .val (.int (1 : Int32)), .val (.int (1 : Int32)), .unset] [(.ref s_VENDOR_DEFINED)])) rfl (by rw [hml]; rfl) (Steps.refl _) (argsL := []) (rest := []) (lenOf pd2 rfl) rfl (by show 2 * 0 + _ ≤ _; exact Nat.le_of_eq rfl) (hb hby at_32) (fun _ _ => ⟨rfl, e2, (by decide : 0 + 0 ≤ _), (by decide : 0 + 0 ≤ _)⟩)
  dsimp only [Pt.U, Pt.locs, Pt.cells, Pt.slots] at X3 l3 y3 z3 st3 hQ3
  subst l3 y3 z3
  obtain ⟨rfl, N3q, e3⟩ := hQ3
  have N3 := Fr.app N2 N3q
  obtain ⟨fs, hr, hrun, hended, hW, hsame⟩ := X3.leave (v := some (.int (1 : Int32))) (fun h => by rw [Bd.returns] at h; cases h)
  refine ⟨_, _, pre0 _ ?_, hrun, hended, _, _, rfl, ?_, ⟨_, rfl⟩, hW, hsame.mono (by decide) (by decide)⟩
  · show Steps p.tables e below (s₁.setTop (mkF m 0 #[.val (.int p0), .unset, .unset, .unset, .unset, .unset] [])) _
    refine XS.iloadN X0.here hx rfl (hb hby at_0) rfl ?_
    show Steps p.tables e below (s₁.setTop (mkF m 1 #[.val (.int p0), .unset, .unset, .unset, .unset, .unset] [(.int p0)])) _
    refine X0.ldcInt hx hown (mvT hZ (hw _ (List.mem_of_getElem? (i := 0) rfl))) (g := (mkF m 1 #[.val (.int p0), .unset, .unset, .unset, .unset, .unset] [(.int p0)])) rfl (hb hby at_1) _ ?_
    show Steps p.tables e below (s₁.setTop (mkF m 3 #[.val (.int p0), .unset, .unset, .unset, .unset, .unset] [(.int (2147483647 : Int32)), (.int p0)])) _
    refine XS.iand X0.here hx rfl (hb hby at_3) rfl ?_
    show Steps p.tables e below (s₁.setTop (mkF m 4 #[.val (.int p0), .unset, .unset, .unset, .unset, .unset] [(.int (p0 &&& (2147483647 : Int32)))])) _
    refine XS.bipush X0.here hx rfl (hb hby at_4) ?_
    show Steps p.tables e below (s₁.setTop (mkF m 6 #[.val (.int p0), .unset, .unset, .unset, .unset, .unset] [(.int (19 : Int32)), (.int (p0 &&& (2147483647 : Int32)))])) _
    refine Jvm.RoadKit.iremM X0 hx rfl (hb hby at_6) rfl (by decide) ?_
    show Steps p.tables e below (s₁.setTop (mkF m 7 #[.val (.int p0), .unset, .unset, .unset, .unset, .unset] [(.int ((p0 &&& (2147483647 : Int32)) % (19 : Int32)))])) _
    rw [hp0]
    show Steps p.tables e below (s₁.setTop (mkF m 7 #[.val (.int p0), .unset, .unset, .unset, .unset, .unset] [(.int (18 : Int32))])) _
    refine XS.istoreN X0.here hx rfl (hb hby at_7) rfl (l' := #[.val (.int p0), .val (.int (18 : Int32)), .unset, .unset, .unset, .unset]) rfl ?_
    show Steps p.tables e below (s₁.setTop (mkF m 8 #[.val (.int p0), .val (.int (18 : Int32)), .unset, .unset, .unset, .unset] [])) _
    refine XS.iloadN X0.here hx rfl (hb hby at_8) rfl ?_
    show Steps p.tables e below (s₁.setTop (mkF m 9 #[.val (.int p0), .val (.int (18 : Int32)), .unset, .unset, .unset, .unset] [(.int (18 : Int32))])) _
    refine st1 _ ?_
    show Steps p.tables e below (T1.setTop (mkF m 12 #[.val (.int p0), .val (.int (18 : Int32)), .unset, .unset, .unset, .unset] [(.ref s_VENDOR_DEFINED)])) _
    refine XS.astoreN X1.here hx rfl (hb hby at_12) rfl rfl (l' := #[.val (.int p0), .val (.int (18 : Int32)), .val (.ref s_VENDOR_DEFINED), .unset, .unset, .unset]) rfl ?_
    show Steps p.tables e below (T1.setTop (mkF m 13 #[.val (.int p0), .val (.int (18 : Int32)), .val (.ref s_VENDOR_DEFINED), .unset, .unset, .unset] [])) _
    refine XS.iloadN X1.here hx rfl (hb hby at_13) rfl ?_
    show Steps p.tables e below (T1.setTop (mkF m 14 #[.val (.int p0), .val (.int (18 : Int32)), .val (.ref s_VENDOR_DEFINED), .unset, .unset, .unset] [(.int (18 : Int32))])) _
    refine XS.bipush X1.here hx rfl (hb hby at_14) ?_
    show Steps p.tables e below (T1.setTop (mkF m 16 #[.val (.int p0), .val (.int (18 : Int32)), .val (.ref s_VENDOR_DEFINED), .unset, .unset, .unset] [(.int (11 : Int32)), (.int (18 : Int32))])) _
    refine XS.icmpNo X1.here hx rfl (hb hby at_16) rfl (by decide +kernel) ?_
    show Steps p.tables e below (T1.setTop (mkF m 19 #[.val (.int p0), .val (.int (18 : Int32)), .val (.ref s_VENDOR_DEFINED), .unset, .unset, .unset] [])) _
    refine XS.iconst X1.here hx rfl (hb hby at_19) ?_
    show Steps p.tables e below (T1.setTop (mkF m 20 #[.val (.int p0), .val (.int (18 : Int32)), .val (.ref s_VENDOR_DEFINED), .unset, .unset, .unset] [(.int (1 : Int32))])) _
    refine XS.goto X1.here hx rfl (pc0 := 20) (pc' := 24) rfl (hb hby at_20) (by decide) (by decide) ?_
    show Steps p.tables e below (T1.setTop (mkF m 24 #[.val (.int p0), .val (.int (18 : Int32)), .val (.ref s_VENDOR_DEFINED), .unset, .unset, .unset] [(.int (1 : Int32))])) _
    refine XS.istoreN X1.here hx rfl (hb hby at_24) rfl (l' := #[.val (.int p0), .val (.int (18 : Int32)), .val (.ref s_VENDOR_DEFINED), .val (.int (1 : Int32)), .unset, .unset]) rfl ?_
    show Steps p.tables e below (T1.setTop (mkF m 25 #[.val (.int p0), .val (.int (18 : Int32)), .val (.ref s_VENDOR_DEFINED), .val (.int (1 : Int32)), .unset, .unset] [])) _
    refine XS.aloadN X1.here hx rfl (hb hby at_25) rfl rfl ?_
    show Steps p.tables e below (T1.setTop (mkF m 26 #[.val (.int p0), .val (.int (18 : Int32)), .val (.ref s_VENDOR_DEFINED), .val (.int (1 : Int32)), .unset, .unset] [(.ref s_VENDOR_DEFINED)])) _
    refine st2.trans ?_
    show Steps p.tables e below (T2.setTop (mkF m 29 #[.val (.int p0), .val (.int (18 : Int32)), .val (.ref s_VENDOR_DEFINED), .val (.int (1 : Int32)), .unset, .unset] [(.int (1 : Int32))])) _
    refine XS.istore X2.here hx rfl (hb hby at_29) rfl (l' := #[.val (.int p0), .val (.int (18 : Int32)), .val (.ref s_VENDOR_DEFINED), .val (.int (1 : Int32)), .val (.int (1 : Int32)), .unset]) rfl ?_
    show Steps p.tables e below (T2.setTop (mkF m 31 #[.val (.int p0), .val (.int (18 : Int32)), .val (.ref s_VENDOR_DEFINED), .val (.int (1 : Int32)), .val (.int (1 : Int32)), .unset] [])) _
    refine XS.aloadN X2.here hx rfl (hb hby at_31) rfl rfl ?_
    show Steps p.tables e below (T2.setTop (mkF m 32 #[.val (.int p0), .val (.int (18 : Int32)), .val (.ref s_VENDOR_DEFINED), .val (.int (1 : Int32)), .val (.int (1 : Int32)), .unset] [(.ref s_VENDOR_DEFINED)])) _
    refine st3.trans ?_
    show Steps p.tables e below (T3.setTop (mkF m 35 #[.val (.int p0), .val (.int (18 : Int32)), .val (.ref s_VENDOR_DEFINED), .val (.int (1 : Int32)), .val (.int (1 : Int32)), .unset] [(.ref t_FIELD_qualifierTag)])) _
    refine XS.ifnullNo X3.here hx rfl (hb hby at_35) rfl ?_
    show Steps p.tables e below (T3.setTop (mkF m 38 #[.val (.int p0), .val (.int (18 : Int32)), .val (.ref s_VENDOR_DEFINED), .val (.int (1 : Int32)), .val (.int (1 : Int32)), .unset] [])) _
    refine XS.iconst X3.here hx rfl (hb hby at_38) ?_
    show Steps p.tables e below (T3.setTop (mkF m 39 #[.val (.int p0), .val (.int (18 : Int32)), .val (.ref s_VENDOR_DEFINED), .val (.int (1 : Int32)), .val (.int (1 : Int32)), .unset] [(.int (1 : Int32))])) _
    refine XS.goto X3.here hx rfl (pc0 := 39) (pc' := 43) rfl (hb hby at_39) (by decide) (by decide) ?_
    show Steps p.tables e below (T3.setTop (mkF m 43 #[.val (.int p0), .val (.int (18 : Int32)), .val (.ref s_VENDOR_DEFINED), .val (.int (1 : Int32)), .val (.int (1 : Int32)), .unset] [(.int (1 : Int32))])) _
    refine XS.istore X3.here hx rfl (hb hby at_43) rfl (l' := #[.val (.int p0), .val (.int (18 : Int32)), .val (.ref s_VENDOR_DEFINED), .val (.int (1 : Int32)), .val (.int (1 : Int32)), .val (.int (1 : Int32))]) rfl ?_
    show Steps p.tables e below (T3.setTop (mkF m 45 #[.val (.int p0), .val (.int (18 : Int32)), .val (.ref s_VENDOR_DEFINED), .val (.int (1 : Int32)), .val (.int (1 : Int32)), .val (.int (1 : Int32))] [])) _
    refine XS.iload X3.here hx rfl (hb hby at_45) rfl ?_
    show Steps p.tables e below (T3.setTop (mkF m 47 #[.val (.int p0), .val (.int (18 : Int32)), .val (.ref s_VENDOR_DEFINED), .val (.int (1 : Int32)), .val (.int (1 : Int32)), .val (.int (1 : Int32))] [(.int (1 : Int32))])) _
    refine XS.iloadN X3.here hx rfl (hb hby at_47) rfl ?_
    show Steps p.tables e below (T3.setTop (mkF m 48 #[.val (.int p0), .val (.int (18 : Int32)), .val (.ref s_VENDOR_DEFINED), .val (.int (1 : Int32)), .val (.int (1 : Int32)), .val (.int (1 : Int32))] [(.int (1 : Int32)), (.int (1 : Int32))])) _
    refine XS.icmpNo X3.here hx rfl (hb hby at_48) rfl (by decide +kernel) ?_
    show Steps p.tables e below (T3.setTop (mkF m 51 #[.val (.int p0), .val (.int (18 : Int32)), .val (.ref s_VENDOR_DEFINED), .val (.int (1 : Int32)), .val (.int (1 : Int32)), .val (.int (1 : Int32))] [])) _
    refine XS.iload X3.here hx rfl (hb hby at_51) rfl ?_
    show Steps p.tables e below (T3.setTop (mkF m 53 #[.val (.int p0), .val (.int (18 : Int32)), .val (.ref s_VENDOR_DEFINED), .val (.int (1 : Int32)), .val (.int (1 : Int32)), .val (.int (1 : Int32))] [(.int (1 : Int32))])) _
    refine XS.iload X3.here hx rfl (hb hby at_53) rfl ?_
    show Steps p.tables e below (T3.setTop (mkF m 55 #[.val (.int p0), .val (.int (18 : Int32)), .val (.ref s_VENDOR_DEFINED), .val (.int (1 : Int32)), .val (.int (1 : Int32)), .val (.int (1 : Int32))] [(.int (1 : Int32)), (.int (1 : Int32))])) _
    refine XS.icmpNo X3.here hx rfl (hb hby at_55) rfl (by decide +kernel) ?_
    show Steps p.tables e below (T3.setTop (mkF m 58 #[.val (.int p0), .val (.int (18 : Int32)), .val (.ref s_VENDOR_DEFINED), .val (.int (1 : Int32)), .val (.int (1 : Int32)), .val (.int (1 : Int32))] [])) _
    refine XS.iconst X3.here hx rfl (hb hby at_58) ?_
    show Steps p.tables e below (T3.setTop (mkF m 59 #[.val (.int p0), .val (.int (18 : Int32)), .val (.ref s_VENDOR_DEFINED), .val (.int (1 : Int32)), .val (.int (1 : Int32)), .val (.int (1 : Int32))] [(.int (1 : Int32))])) _
    refine XS.goto X3.here hx rfl (pc0 := 59) (pc' := 63) rfl (hb hby at_59) (by decide) (by decide) ?_
    show Steps p.tables e below (T3.setTop (mkF m 63 #[.val (.int p0), .val (.int (18 : Int32)), .val (.ref s_VENDOR_DEFINED), .val (.int (1 : Int32)), .val (.int (1 : Int32)), .val (.int (1 : Int32))] [(.int (1 : Int32))])) _
    exact retN X3 hx (t := .boolean) Bd.returns (by simp) (hb hby at_63) hr
  · exact ⟨rfl, N3, e3⟩
theorem rm0 (l : Launch) (Z : State) (a0 : Array Value) (hw : ∀ d ∈ tables_1, d.before a0 Z = true) (ws : List Jvm.Cond) (h0 : Heap) (n0 : Nat) (s_NO_OP : Addr) (s_END_OF_CONSTRUCTOR : Addr) (s_ASCII_STRING : Addr) (s_BOOLEAN : Addr) (s_UNIQUE_ID : Addr) (s_SEQUENCE : Addr) (s_SET : Addr) (s_INTEGER : Addr) (s_PADDING : Addr) (s_PROPERTY_LIST : Addr) (s_DATE : Addr) (s_BIT_STRING : Addr) (t_BIT_STRING_qualifierTag : Addr) (s_PROPERTY : Addr) (s_FIELD : Addr) (t_FIELD_qualifierTag : Addr) (s_COMPRESSED : Addr) (s_ENCRYPTED : Addr) (t_ENCRYPTED_qualifierTag : Addr) (s_MESSAGE : Addr) (t_MESSAGE_qualifierTag : Addr) (s_EXTENSION : Addr) (s_VENDOR_DEFINED : Addr) (K : Ctx Z h0 s_NO_OP s_END_OF_CONSTRUCTOR s_ASCII_STRING s_BOOLEAN s_UNIQUE_ID s_SEQUENCE s_SET s_INTEGER s_PADDING s_PROPERTY_LIST s_DATE s_BIT_STRING t_BIT_STRING_qualifierTag s_PROPERTY s_FIELD t_FIELD_qualifierTag s_COMPRESSED s_ENCRYPTED t_ENCRYPTED_qualifierTag s_MESSAGE t_MESSAGE_qualifierTag s_EXTENSION s_VENDOR_DEFINED) (p0 : Int32) :
    MetFree l x (head1 (Jvm.Cond.code x code maxLocals ret :: ws) room_1) (fun a U => a = #[(.int p0)] ∧ Z.Warmed39 U.vm ∧ U.heap = h0) (fun _ _ _ _ _ => True) (fun _ U o U' => ∃ v L, o = .returned v ∧ QV (.int (1 : Int32)) h0 n0 v U'.heap L ∧ FrameEnd U o U' L room_1.cells room_1.slots) := by
  rcases own_mod19 p0 with hp0 | hp0 | hp0 | hp0 | hp0 | hp0 | hp0 | hp0 | hp0 | hp0 | hp0 | hp0 | hp0 | hp0 | hp0 | hp0 | hp0 | hp0 | hp0
  · exact law_k0 l Z a0 hw ws h0 n0 s_NO_OP s_END_OF_CONSTRUCTOR s_ASCII_STRING s_BOOLEAN s_UNIQUE_ID s_SEQUENCE s_SET s_INTEGER s_PADDING s_PROPERTY_LIST s_DATE s_BIT_STRING t_BIT_STRING_qualifierTag s_PROPERTY s_FIELD t_FIELD_qualifierTag s_COMPRESSED s_ENCRYPTED t_ENCRYPTED_qualifierTag s_MESSAGE t_MESSAGE_qualifierTag s_EXTENSION s_VENDOR_DEFINED K p0 hp0
  · exact law_k1 l Z a0 hw ws h0 n0 s_NO_OP s_END_OF_CONSTRUCTOR s_ASCII_STRING s_BOOLEAN s_UNIQUE_ID s_SEQUENCE s_SET s_INTEGER s_PADDING s_PROPERTY_LIST s_DATE s_BIT_STRING t_BIT_STRING_qualifierTag s_PROPERTY s_FIELD t_FIELD_qualifierTag s_COMPRESSED s_ENCRYPTED t_ENCRYPTED_qualifierTag s_MESSAGE t_MESSAGE_qualifierTag s_EXTENSION s_VENDOR_DEFINED K p0 hp0
  · exact law_k2 l Z a0 hw ws h0 n0 s_NO_OP s_END_OF_CONSTRUCTOR s_ASCII_STRING s_BOOLEAN s_UNIQUE_ID s_SEQUENCE s_SET s_INTEGER s_PADDING s_PROPERTY_LIST s_DATE s_BIT_STRING t_BIT_STRING_qualifierTag s_PROPERTY s_FIELD t_FIELD_qualifierTag s_COMPRESSED s_ENCRYPTED t_ENCRYPTED_qualifierTag s_MESSAGE t_MESSAGE_qualifierTag s_EXTENSION s_VENDOR_DEFINED K p0 hp0
  · exact law_k3 l Z a0 hw ws h0 n0 s_NO_OP s_END_OF_CONSTRUCTOR s_ASCII_STRING s_BOOLEAN s_UNIQUE_ID s_SEQUENCE s_SET s_INTEGER s_PADDING s_PROPERTY_LIST s_DATE s_BIT_STRING t_BIT_STRING_qualifierTag s_PROPERTY s_FIELD t_FIELD_qualifierTag s_COMPRESSED s_ENCRYPTED t_ENCRYPTED_qualifierTag s_MESSAGE t_MESSAGE_qualifierTag s_EXTENSION s_VENDOR_DEFINED K p0 hp0
  · exact law_k4 l Z a0 hw ws h0 n0 s_NO_OP s_END_OF_CONSTRUCTOR s_ASCII_STRING s_BOOLEAN s_UNIQUE_ID s_SEQUENCE s_SET s_INTEGER s_PADDING s_PROPERTY_LIST s_DATE s_BIT_STRING t_BIT_STRING_qualifierTag s_PROPERTY s_FIELD t_FIELD_qualifierTag s_COMPRESSED s_ENCRYPTED t_ENCRYPTED_qualifierTag s_MESSAGE t_MESSAGE_qualifierTag s_EXTENSION s_VENDOR_DEFINED K p0 hp0
  · exact law_k5 l Z a0 hw ws h0 n0 s_NO_OP s_END_OF_CONSTRUCTOR s_ASCII_STRING s_BOOLEAN s_UNIQUE_ID s_SEQUENCE s_SET s_INTEGER s_PADDING s_PROPERTY_LIST s_DATE s_BIT_STRING t_BIT_STRING_qualifierTag s_PROPERTY s_FIELD t_FIELD_qualifierTag s_COMPRESSED s_ENCRYPTED t_ENCRYPTED_qualifierTag s_MESSAGE t_MESSAGE_qualifierTag s_EXTENSION s_VENDOR_DEFINED K p0 hp0
  · exact law_k6 l Z a0 hw ws h0 n0 s_NO_OP s_END_OF_CONSTRUCTOR s_ASCII_STRING s_BOOLEAN s_UNIQUE_ID s_SEQUENCE s_SET s_INTEGER s_PADDING s_PROPERTY_LIST s_DATE s_BIT_STRING t_BIT_STRING_qualifierTag s_PROPERTY s_FIELD t_FIELD_qualifierTag s_COMPRESSED s_ENCRYPTED t_ENCRYPTED_qualifierTag s_MESSAGE t_MESSAGE_qualifierTag s_EXTENSION s_VENDOR_DEFINED K p0 hp0
  · exact law_k7 l Z a0 hw ws h0 n0 s_NO_OP s_END_OF_CONSTRUCTOR s_ASCII_STRING s_BOOLEAN s_UNIQUE_ID s_SEQUENCE s_SET s_INTEGER s_PADDING s_PROPERTY_LIST s_DATE s_BIT_STRING t_BIT_STRING_qualifierTag s_PROPERTY s_FIELD t_FIELD_qualifierTag s_COMPRESSED s_ENCRYPTED t_ENCRYPTED_qualifierTag s_MESSAGE t_MESSAGE_qualifierTag s_EXTENSION s_VENDOR_DEFINED K p0 hp0
  · exact law_k8 l Z a0 hw ws h0 n0 s_NO_OP s_END_OF_CONSTRUCTOR s_ASCII_STRING s_BOOLEAN s_UNIQUE_ID s_SEQUENCE s_SET s_INTEGER s_PADDING s_PROPERTY_LIST s_DATE s_BIT_STRING t_BIT_STRING_qualifierTag s_PROPERTY s_FIELD t_FIELD_qualifierTag s_COMPRESSED s_ENCRYPTED t_ENCRYPTED_qualifierTag s_MESSAGE t_MESSAGE_qualifierTag s_EXTENSION s_VENDOR_DEFINED K p0 hp0
  · exact law_k9 l Z a0 hw ws h0 n0 s_NO_OP s_END_OF_CONSTRUCTOR s_ASCII_STRING s_BOOLEAN s_UNIQUE_ID s_SEQUENCE s_SET s_INTEGER s_PADDING s_PROPERTY_LIST s_DATE s_BIT_STRING t_BIT_STRING_qualifierTag s_PROPERTY s_FIELD t_FIELD_qualifierTag s_COMPRESSED s_ENCRYPTED t_ENCRYPTED_qualifierTag s_MESSAGE t_MESSAGE_qualifierTag s_EXTENSION s_VENDOR_DEFINED K p0 hp0
  · exact law_k10 l Z a0 hw ws h0 n0 s_NO_OP s_END_OF_CONSTRUCTOR s_ASCII_STRING s_BOOLEAN s_UNIQUE_ID s_SEQUENCE s_SET s_INTEGER s_PADDING s_PROPERTY_LIST s_DATE s_BIT_STRING t_BIT_STRING_qualifierTag s_PROPERTY s_FIELD t_FIELD_qualifierTag s_COMPRESSED s_ENCRYPTED t_ENCRYPTED_qualifierTag s_MESSAGE t_MESSAGE_qualifierTag s_EXTENSION s_VENDOR_DEFINED K p0 hp0
  · exact law_k11 l Z a0 hw ws h0 n0 s_NO_OP s_END_OF_CONSTRUCTOR s_ASCII_STRING s_BOOLEAN s_UNIQUE_ID s_SEQUENCE s_SET s_INTEGER s_PADDING s_PROPERTY_LIST s_DATE s_BIT_STRING t_BIT_STRING_qualifierTag s_PROPERTY s_FIELD t_FIELD_qualifierTag s_COMPRESSED s_ENCRYPTED t_ENCRYPTED_qualifierTag s_MESSAGE t_MESSAGE_qualifierTag s_EXTENSION s_VENDOR_DEFINED K p0 hp0
  · exact law_k12 l Z a0 hw ws h0 n0 s_NO_OP s_END_OF_CONSTRUCTOR s_ASCII_STRING s_BOOLEAN s_UNIQUE_ID s_SEQUENCE s_SET s_INTEGER s_PADDING s_PROPERTY_LIST s_DATE s_BIT_STRING t_BIT_STRING_qualifierTag s_PROPERTY s_FIELD t_FIELD_qualifierTag s_COMPRESSED s_ENCRYPTED t_ENCRYPTED_qualifierTag s_MESSAGE t_MESSAGE_qualifierTag s_EXTENSION s_VENDOR_DEFINED K p0 hp0
  · exact law_k13 l Z a0 hw ws h0 n0 s_NO_OP s_END_OF_CONSTRUCTOR s_ASCII_STRING s_BOOLEAN s_UNIQUE_ID s_SEQUENCE s_SET s_INTEGER s_PADDING s_PROPERTY_LIST s_DATE s_BIT_STRING t_BIT_STRING_qualifierTag s_PROPERTY s_FIELD t_FIELD_qualifierTag s_COMPRESSED s_ENCRYPTED t_ENCRYPTED_qualifierTag s_MESSAGE t_MESSAGE_qualifierTag s_EXTENSION s_VENDOR_DEFINED K p0 hp0
  · exact law_k14 l Z a0 hw ws h0 n0 s_NO_OP s_END_OF_CONSTRUCTOR s_ASCII_STRING s_BOOLEAN s_UNIQUE_ID s_SEQUENCE s_SET s_INTEGER s_PADDING s_PROPERTY_LIST s_DATE s_BIT_STRING t_BIT_STRING_qualifierTag s_PROPERTY s_FIELD t_FIELD_qualifierTag s_COMPRESSED s_ENCRYPTED t_ENCRYPTED_qualifierTag s_MESSAGE t_MESSAGE_qualifierTag s_EXTENSION s_VENDOR_DEFINED K p0 hp0
  · exact law_k15 l Z a0 hw ws h0 n0 s_NO_OP s_END_OF_CONSTRUCTOR s_ASCII_STRING s_BOOLEAN s_UNIQUE_ID s_SEQUENCE s_SET s_INTEGER s_PADDING s_PROPERTY_LIST s_DATE s_BIT_STRING t_BIT_STRING_qualifierTag s_PROPERTY s_FIELD t_FIELD_qualifierTag s_COMPRESSED s_ENCRYPTED t_ENCRYPTED_qualifierTag s_MESSAGE t_MESSAGE_qualifierTag s_EXTENSION s_VENDOR_DEFINED K p0 hp0
  · exact law_k16 l Z a0 hw ws h0 n0 s_NO_OP s_END_OF_CONSTRUCTOR s_ASCII_STRING s_BOOLEAN s_UNIQUE_ID s_SEQUENCE s_SET s_INTEGER s_PADDING s_PROPERTY_LIST s_DATE s_BIT_STRING t_BIT_STRING_qualifierTag s_PROPERTY s_FIELD t_FIELD_qualifierTag s_COMPRESSED s_ENCRYPTED t_ENCRYPTED_qualifierTag s_MESSAGE t_MESSAGE_qualifierTag s_EXTENSION s_VENDOR_DEFINED K p0 hp0
  · exact law_k17 l Z a0 hw ws h0 n0 s_NO_OP s_END_OF_CONSTRUCTOR s_ASCII_STRING s_BOOLEAN s_UNIQUE_ID s_SEQUENCE s_SET s_INTEGER s_PADDING s_PROPERTY_LIST s_DATE s_BIT_STRING t_BIT_STRING_qualifierTag s_PROPERTY s_FIELD t_FIELD_qualifierTag s_COMPRESSED s_ENCRYPTED t_ENCRYPTED_qualifierTag s_MESSAGE t_MESSAGE_qualifierTag s_EXTENSION s_VENDOR_DEFINED K p0 hp0
  · exact law_k18 l Z a0 hw ws h0 n0 s_NO_OP s_END_OF_CONSTRUCTOR s_ASCII_STRING s_BOOLEAN s_UNIQUE_ID s_SEQUENCE s_SET s_INTEGER s_PADDING s_PROPERTY_LIST s_DATE s_BIT_STRING t_BIT_STRING_qualifierTag s_PROPERTY s_FIELD t_FIELD_qualifierTag s_COMPRESSED s_ENCRYPTED t_ENCRYPTED_qualifierTag s_MESSAGE t_MESSAGE_qualifierTag s_EXTENSION s_VENDOR_DEFINED K p0 hp0
set_option maxRecDepth 65536 in
set_option maxHeartbeats 40000000 in
theorem comes_1 {Post : Tables → Env → Array Value → State → Outcome → State → Prop} (hpost : ∀ tb e args s v u, (limb_1_1.after args s (.returned v) u = true ∧ limb_1_2.after args s (.returned v) u = true ∧ True) → FrameEnd s (.returned v) u (Jvm.fieldLocs frame_1_writes args s ++ Jvm.arrayLocs frame_1_arrays args s ++ Jvm.staticLocs frame_1_statics s) 0 0 → Post tb e args s (.returned v) u) :
    ArmFor flags0 classFile x code maxLocals ret World_1 tables_1 room_1 Calls_1 rest_1 Pre_1 Post := by
  intro l hfl _ _ p e ha hc hk s m args below hf hA hF happ hP
  obtain ⟨hcalls, hrest, hpre⟩ := hP
  obtain ⟨-, -, -, hnamed, -, -, -, hat⟩ := (Spec.applies_iff hf).mp happ
  obtain ⟨hg, hn⟩ := and_e (Cond.before_iff.mp (show (Jvm.Cond.and given_1 narrow_1).before args s = true from hpre))
  obtain ⟨g0, gr0⟩ := and_e hg
  have ga0 := gr0
  obtain ⟨w0, rfl⟩ : ∃ w0 : Value, args = #[w0] := by
    have hs : args.size = 1 := by simpa [Cond.value, given_1] using g0
    obtain ⟨L⟩ := args
    match L, hs with
    | [w0], _ => exact ⟨w0, rfl⟩
  have hw := fun d (hd : d ∈ tables_1) => atoms_spec (ws := Jvm.Cond.code x code maxLocals ret :: tables_1) hat d (List.mem_cons_of_mem _ hd)
  obtain ⟨p0, ei0⟩ := is_v ga0
  obtain rfl : w0 = (.int p0) := Option.some.inj ei0
  obtain ⟨hnl, hnr⟩ := and_e hn
  have n0 := hnl
  obtain ⟨hnrl, hnrr⟩ := and_e hnr
  have n1 := hnrl
  obtain ⟨hnrrl, hnrrr⟩ := and_e hnrr
  have n2 := hnrrl
  obtain ⟨hnrrrl, hnrrrr⟩ := and_e hnrrr
  have n3 := hnrrrl
  obtain ⟨hnrrrrl, hnrrrrr⟩ := and_e hnrrrr
  have n4 := hnrrrrl
  obtain ⟨hnrrrrrl, hnrrrrrr⟩ := and_e hnrrrrr
  have n5 := hnrrrrrl
  obtain ⟨hnrrrrrrl, hnrrrrrrr⟩ := and_e hnrrrrrr
  have n6 := hnrrrrrrl
  obtain ⟨hnrrrrrrrl, hnrrrrrrrr⟩ := and_e hnrrrrrrr
  have n7 := hnrrrrrrrl
  obtain ⟨hnrrrrrrrrl, hnrrrrrrrrr⟩ := and_e hnrrrrrrrr
  have n8 := hnrrrrrrrrl
  obtain ⟨hnrrrrrrrrrl, hnrrrrrrrrrr⟩ := and_e hnrrrrrrrrr
  have n9 := hnrrrrrrrrrl
  obtain ⟨hnrrrrrrrrrrl, hnrrrrrrrrrrr⟩ := and_e hnrrrrrrrrrr
  have n10 := hnrrrrrrrrrrl
  obtain ⟨hnrrrrrrrrrrrl, hnrrrrrrrrrrrr⟩ := and_e hnrrrrrrrrrrr
  have n11 := hnrrrrrrrrrrrl
  obtain ⟨hnrrrrrrrrrrrrl, hnrrrrrrrrrrrrr⟩ := and_e hnrrrrrrrrrrrr
  have n12 := hnrrrrrrrrrrrrl
  obtain ⟨hnrrrrrrrrrrrrrl, hnrrrrrrrrrrrrrr⟩ := and_e hnrrrrrrrrrrrrr
  have n13 := hnrrrrrrrrrrrrrl
  obtain ⟨hnrrrrrrrrrrrrrrl, hnrrrrrrrrrrrrrrr⟩ := and_e hnrrrrrrrrrrrrrr
  have n14 := hnrrrrrrrrrrrrrrl
  obtain ⟨hnrrrrrrrrrrrrrrrl, hnrrrrrrrrrrrrrrrr⟩ := and_e hnrrrrrrrrrrrrrrr
  have n15 := hnrrrrrrrrrrrrrrrl
  obtain ⟨hnrrrrrrrrrrrrrrrrl, hnrrrrrrrrrrrrrrrrr⟩ := and_e hnrrrrrrrrrrrrrrrr
  have n16 := hnrrrrrrrrrrrrrrrrl
  obtain ⟨hnrrrrrrrrrrrrrrrrrl, hnrrrrrrrrrrrrrrrrrr⟩ := and_e hnrrrrrrrrrrrrrrrrr
  have n17 := hnrrrrrrrrrrrrrrrrrl
  obtain ⟨hnrrrrrrrrrrrrrrrrrrl, hnrrrrrrrrrrrrrrrrrrr⟩ := and_e hnrrrrrrrrrrrrrrrrrr
  have n18 := hnrrrrrrrrrrrrrrrrrrl
  obtain ⟨hnrrrrrrrrrrrrrrrrrrrl, hnrrrrrrrrrrrrrrrrrrrr⟩ := and_e hnrrrrrrrrrrrrrrrrrrr
  have n19 := hnrrrrrrrrrrrrrrrrrrrl
  obtain ⟨hnrrrrrrrrrrrrrrrrrrrrl, hnrrrrrrrrrrrrrrrrrrrrr⟩ := and_e hnrrrrrrrrrrrrrrrrrrrr
  have n20 := hnrrrrrrrrrrrrrrrrrrrrl
  obtain ⟨hnrrrrrrrrrrrrrrrrrrrrrl, hnrrrrrrrrrrrrrrrrrrrrrr⟩ := and_e hnrrrrrrrrrrrrrrrrrrrrr
  have n21 := hnrrrrrrrrrrrrrrrrrrrrrl
  obtain ⟨hnrrrrrrrrrrrrrrrrrrrrrrl, hnrrrrrrrrrrrrrrrrrrrrrrr⟩ := and_e hnrrrrrrrrrrrrrrrrrrrrrr
  have n22 := hnrrrrrrrrrrrrrrrrrrrrrrl
  obtain ⟨hnrrrrrrrrrrrrrrrrrrrrrrrl, hnrrrrrrrrrrrrrrrrrrrrrrrr⟩ := and_e hnrrrrrrrrrrrrrrrrrrrrrrr
  have n23 := hnrrrrrrrrrrrrrrrrrrrrrrrl
  obtain ⟨hnrrrrrrrrrrrrrrrrrrrrrrrrl, hnrrrrrrrrrrrrrrrrrrrrrrrrr⟩ := and_e hnrrrrrrrrrrrrrrrrrrrrrrrr
  have n24 := hnrrrrrrrrrrrrrrrrrrrrrrrrl
  obtain ⟨hnrrrrrrrrrrrrrrrrrrrrrrrrrl, hnrrrrrrrrrrrrrrrrrrrrrrrrrr⟩ := and_e hnrrrrrrrrrrrrrrrrrrrrrrrrr
  have n25 := hnrrrrrrrrrrrrrrrrrrrrrrrrrl
  obtain ⟨hnrrrrrrrrrrrrrrrrrrrrrrrrrrl, hnrrrrrrrrrrrrrrrrrrrrrrrrrrr⟩ := and_e hnrrrrrrrrrrrrrrrrrrrrrrrrrr
  have n26 := hnrrrrrrrrrrrrrrrrrrrrrrrrrrl
  obtain ⟨hnrrrrrrrrrrrrrrrrrrrrrrrrrrrl, hnrrrrrrrrrrrrrrrrrrrrrrrrrrrr⟩ := and_e hnrrrrrrrrrrrrrrrrrrrrrrrrrrr
  have n27 := hnrrrrrrrrrrrrrrrrrrrrrrrrrrrl
  obtain ⟨hnrrrrrrrrrrrrrrrrrrrrrrrrrrrrl, hnrrrrrrrrrrrrrrrrrrrrrrrrrrrrr⟩ := and_e hnrrrrrrrrrrrrrrrrrrrrrrrrrrrr
  have n28 := hnrrrrrrrrrrrrrrrrrrrrrrrrrrrrl
  obtain ⟨hnrrrrrrrrrrrrrrrrrrrrrrrrrrrrrl, hnrrrrrrrrrrrrrrrrrrrrrrrrrrrrrr⟩ := and_e hnrrrrrrrrrrrrrrrrrrrrrrrrrrrrr
  have n29 := hnrrrrrrrrrrrrrrrrrrrrrrrrrrrrrl
  obtain ⟨hnrrrrrrrrrrrrrrrrrrrrrrrrrrrrrrl, hnrrrrrrrrrrrrrrrrrrrrrrrrrrrrrrr⟩ := and_e hnrrrrrrrrrrrrrrrrrrrrrrrrrrrrrr
  have n30 := hnrrrrrrrrrrrrrrrrrrrrrrrrrrrrrrl
  obtain ⟨hnrrrrrrrrrrrrrrrrrrrrrrrrrrrrrrrl, hnrrrrrrrrrrrrrrrrrrrrrrrrrrrrrrrr⟩ := and_e hnrrrrrrrrrrrrrrrrrrrrrrrrrrrrrrr
  have n31 := hnrrrrrrrrrrrrrrrrrrrrrrrrrrrrrrrl
  obtain ⟨hnrrrrrrrrrrrrrrrrrrrrrrrrrrrrrrrrl, hnrrrrrrrrrrrrrrrrrrrrrrrrrrrrrrrrr⟩ := and_e hnrrrrrrrrrrrrrrrrrrrrrrrrrrrrrrrr
  have n32 := hnrrrrrrrrrrrrrrrrrrrrrrrrrrrrrrrrl
  obtain ⟨hnrrrrrrrrrrrrrrrrrrrrrrrrrrrrrrrrrl, hnrrrrrrrrrrrrrrrrrrrrrrrrrrrrrrrrrr⟩ := and_e hnrrrrrrrrrrrrrrrrrrrrrrrrrrrrrrrrr
  have n33 := hnrrrrrrrrrrrrrrrrrrrrrrrrrrrrrrrrrl
  obtain ⟨hnrrrrrrrrrrrrrrrrrrrrrrrrrrrrrrrrrrl, hnrrrrrrrrrrrrrrrrrrrrrrrrrrrrrrrrrrr⟩ := and_e hnrrrrrrrrrrrrrrrrrrrrrrrrrrrrrrrrrr
  have n34 := hnrrrrrrrrrrrrrrrrrrrrrrrrrrrrrrrrrrl
  obtain ⟨hnrrrrrrrrrrrrrrrrrrrrrrrrrrrrrrrrrrrl, hnrrrrrrrrrrrrrrrrrrrrrrrrrrrrrrrrrrrr⟩ := and_e hnrrrrrrrrrrrrrrrrrrrrrrrrrrrrrrrrrrr
  have n35 := hnrrrrrrrrrrrrrrrrrrrrrrrrrrrrrrrrrrrl
  obtain ⟨hnrrrrrrrrrrrrrrrrrrrrrrrrrrrrrrrrrrrrl, hnrrrrrrrrrrrrrrrrrrrrrrrrrrrrrrrrrrrrr⟩ := and_e hnrrrrrrrrrrrrrrrrrrrrrrrrrrrrrrrrrrrr
  have n36 := hnrrrrrrrrrrrrrrrrrrrrrrrrrrrrrrrrrrrrl
  obtain ⟨hnrrrrrrrrrrrrrrrrrrrrrrrrrrrrrrrrrrrrrl, hnrrrrrrrrrrrrrrrrrrrrrrrrrrrrrrrrrrrrrr⟩ := and_e hnrrrrrrrrrrrrrrrrrrrrrrrrrrrrrrrrrrrrr
  have n37 := hnrrrrrrrrrrrrrrrrrrrrrrrrrrrrrrrrrrrrrl
  obtain ⟨hnrrrrrrrrrrrrrrrrrrrrrrrrrrrrrrrrrrrrrrl, hnrrrrrrrrrrrrrrrrrrrrrrrrrrrrrrrrrrrrrrr⟩ := and_e hnrrrrrrrrrrrrrrrrrrrrrrrrrrrrrrrrrrrrrr
  have n38 := hnrrrrrrrrrrrrrrrrrrrrrrrrrrrrrrrrrrrrrrl
  obtain ⟨hnrrrrrrrrrrrrrrrrrrrrrrrrrrrrrrrrrrrrrrrl, hnrrrrrrrrrrrrrrrrrrrrrrrrrrrrrrrrrrrrrrrr⟩ := and_e hnrrrrrrrrrrrrrrrrrrrrrrrrrrrrrrrrrrrrrrr
  have n39 := hnrrrrrrrrrrrrrrrrrrrrrrrrrrrrrrrrrrrrrrrl
  obtain ⟨hnrrrrrrrrrrrrrrrrrrrrrrrrrrrrrrrrrrrrrrrrl, hnrrrrrrrrrrrrrrrrrrrrrrrrrrrrrrrrrrrrrrrrr⟩ := and_e hnrrrrrrrrrrrrrrrrrrrrrrrrrrrrrrrrrrrrrrrr
  have n40 := hnrrrrrrrrrrrrrrrrrrrrrrrrrrrrrrrrrrrrrrrrl
  obtain ⟨hnrrrrrrrrrrrrrrrrrrrrrrrrrrrrrrrrrrrrrrrrrl, hnrrrrrrrrrrrrrrrrrrrrrrrrrrrrrrrrrrrrrrrrrr⟩ := and_e hnrrrrrrrrrrrrrrrrrrrrrrrrrrrrrrrrrrrrrrrrr
  have n41 := hnrrrrrrrrrrrrrrrrrrrrrrrrrrrrrrrrrrrrrrrrrl
  obtain ⟨hnrrrrrrrrrrrrrrrrrrrrrrrrrrrrrrrrrrrrrrrrrrl, hnrrrrrrrrrrrrrrrrrrrrrrrrrrrrrrrrrrrrrrrrrrr⟩ := and_e hnrrrrrrrrrrrrrrrrrrrrrrrrrrrrrrrrrrrrrrrrrr
  have n42 := hnrrrrrrrrrrrrrrrrrrrrrrrrrrrrrrrrrrrrrrrrrrl
  obtain ⟨hnrrrrrrrrrrrrrrrrrrrrrrrrrrrrrrrrrrrrrrrrrrrl, hnrrrrrrrrrrrrrrrrrrrrrrrrrrrrrrrrrrrrrrrrrrrr⟩ := and_e hnrrrrrrrrrrrrrrrrrrrrrrrrrrrrrrrrrrrrrrrrrrr
  have n43 := hnrrrrrrrrrrrrrrrrrrrrrrrrrrrrrrrrrrrrrrrrrrrl
  obtain ⟨hnrrrrrrrrrrrrrrrrrrrrrrrrrrrrrrrrrrrrrrrrrrrrl, hnrrrrrrrrrrrrrrrrrrrrrrrrrrrrrrrrrrrrrrrrrrrrr⟩ := and_e hnrrrrrrrrrrrrrrrrrrrrrrrrrrrrrrrrrrrrrrrrrrrr
  have n44 := hnrrrrrrrrrrrrrrrrrrrrrrrrrrrrrrrrrrrrrrrrrrrrl
  obtain ⟨hnrrrrrrrrrrrrrrrrrrrrrrrrrrrrrrrrrrrrrrrrrrrrrl, hnrrrrrrrrrrrrrrrrrrrrrrrrrrrrrrrrrrrrrrrrrrrrrr⟩ := and_e hnrrrrrrrrrrrrrrrrrrrrrrrrrrrrrrrrrrrrrrrrrrrrr
  have n45 := hnrrrrrrrrrrrrrrrrrrrrrrrrrrrrrrrrrrrrrrrrrrrrrl
  obtain ⟨hnrrrrrrrrrrrrrrrrrrrrrrrrrrrrrrrrrrrrrrrrrrrrrrl, hnrrrrrrrrrrrrrrrrrrrrrrrrrrrrrrrrrrrrrrrrrrrrrrr⟩ := and_e hnrrrrrrrrrrrrrrrrrrrrrrrrrrrrrrrrrrrrrrrrrrrrrr
  have n46 := hnrrrrrrrrrrrrrrrrrrrrrrrrrrrrrrrrrrrrrrrrrrrrrrl
  obtain ⟨hnrrrrrrrrrrrrrrrrrrrrrrrrrrrrrrrrrrrrrrrrrrrrrrrl, hnrrrrrrrrrrrrrrrrrrrrrrrrrrrrrrrrrrrrrrrrrrrrrrrr⟩ := and_e hnrrrrrrrrrrrrrrrrrrrrrrrrrrrrrrrrrrrrrrrrrrrrrrr
  have n47 := hnrrrrrrrrrrrrrrrrrrrrrrrrrrrrrrrrrrrrrrrrrrrrrrrl
  obtain ⟨hnrrrrrrrrrrrrrrrrrrrrrrrrrrrrrrrrrrrrrrrrrrrrrrrrl, hnrrrrrrrrrrrrrrrrrrrrrrrrrrrrrrrrrrrrrrrrrrrrrrrrr⟩ := and_e hnrrrrrrrrrrrrrrrrrrrrrrrrrrrrrrrrrrrrrrrrrrrrrrrr
  have n48 := hnrrrrrrrrrrrrrrrrrrrrrrrrrrrrrrrrrrrrrrrrrrrrrrrrl
  obtain ⟨hnrrrrrrrrrrrrrrrrrrrrrrrrrrrrrrrrrrrrrrrrrrrrrrrrrl, hnrrrrrrrrrrrrrrrrrrrrrrrrrrrrrrrrrrrrrrrrrrrrrrrrrr⟩ := and_e hnrrrrrrrrrrrrrrrrrrrrrrrrrrrrrrrrrrrrrrrrrrrrrrrrr
  have n49 := hnrrrrrrrrrrrrrrrrrrrrrrrrrrrrrrrrrrrrrrrrrrrrrrrrrl
  obtain ⟨hnrrrrrrrrrrrrrrrrrrrrrrrrrrrrrrrrrrrrrrrrrrrrrrrrrrl, hnrrrrrrrrrrrrrrrrrrrrrrrrrrrrrrrrrrrrrrrrrrrrrrrrrrr⟩ := and_e hnrrrrrrrrrrrrrrrrrrrrrrrrrrrrrrrrrrrrrrrrrrrrrrrrrr
  have n50 := hnrrrrrrrrrrrrrrrrrrrrrrrrrrrrrrrrrrrrrrrrrrrrrrrrrrl
  obtain ⟨hnrrrrrrrrrrrrrrrrrrrrrrrrrrrrrrrrrrrrrrrrrrrrrrrrrrrl, hnrrrrrrrrrrrrrrrrrrrrrrrrrrrrrrrrrrrrrrrrrrrrrrrrrrrr⟩ := and_e hnrrrrrrrrrrrrrrrrrrrrrrrrrrrrrrrrrrrrrrrrrrrrrrrrrrr
  have n51 := hnrrrrrrrrrrrrrrrrrrrrrrrrrrrrrrrrrrrrrrrrrrrrrrrrrrrl
  obtain ⟨hnrrrrrrrrrrrrrrrrrrrrrrrrrrrrrrrrrrrrrrrrrrrrrrrrrrrrl, hnrrrrrrrrrrrrrrrrrrrrrrrrrrrrrrrrrrrrrrrrrrrrrrrrrrrrr⟩ := and_e hnrrrrrrrrrrrrrrrrrrrrrrrrrrrrrrrrrrrrrrrrrrrrrrrrrrrr
  have n52 := hnrrrrrrrrrrrrrrrrrrrrrrrrrrrrrrrrrrrrrrrrrrrrrrrrrrrrl
  obtain ⟨hnrrrrrrrrrrrrrrrrrrrrrrrrrrrrrrrrrrrrrrrrrrrrrrrrrrrrrl, hnrrrrrrrrrrrrrrrrrrrrrrrrrrrrrrrrrrrrrrrrrrrrrrrrrrrrrr⟩ := and_e hnrrrrrrrrrrrrrrrrrrrrrrrrrrrrrrrrrrrrrrrrrrrrrrrrrrrrr
  have n53 := hnrrrrrrrrrrrrrrrrrrrrrrrrrrrrrrrrrrrrrrrrrrrrrrrrrrrrrl
  obtain ⟨hnrrrrrrrrrrrrrrrrrrrrrrrrrrrrrrrrrrrrrrrrrrrrrrrrrrrrrrl, hnrrrrrrrrrrrrrrrrrrrrrrrrrrrrrrrrrrrrrrrrrrrrrrrrrrrrrrr⟩ := and_e hnrrrrrrrrrrrrrrrrrrrrrrrrrrrrrrrrrrrrrrrrrrrrrrrrrrrrrr
  have n54 := hnrrrrrrrrrrrrrrrrrrrrrrrrrrrrrrrrrrrrrrrrrrrrrrrrrrrrrrl
  obtain ⟨hnrrrrrrrrrrrrrrrrrrrrrrrrrrrrrrrrrrrrrrrrrrrrrrrrrrrrrrrl, hnrrrrrrrrrrrrrrrrrrrrrrrrrrrrrrrrrrrrrrrrrrrrrrrrrrrrrrrr⟩ := and_e hnrrrrrrrrrrrrrrrrrrrrrrrrrrrrrrrrrrrrrrrrrrrrrrrrrrrrrrr
  have n55 := hnrrrrrrrrrrrrrrrrrrrrrrrrrrrrrrrrrrrrrrrrrrrrrrrrrrrrrrrl
  have n56 := hnrrrrrrrrrrrrrrrrrrrrrrrrrrrrrrrrrrrrrrrrrrrrrrrrrrrrrrrr
  obtain ⟨s_NO_OP, ev_NO_OP⟩ := exa_v n0
  have E_NO_OP := Exa.start ev_NO_OP n0
  have S_NO_OP := Sta.start ev_NO_OP (Or.inr ⟨(hw _ (List.mem_of_getElem? (i := 6) rfl)), (hw _ (List.mem_of_getElem? (i := 7) rfl))⟩)
  obtain ⟨s_BOOLEAN, ev_BOOLEAN⟩ := exa_v n3
  have E_BOOLEAN := Exa.start ev_BOOLEAN n3
  have S_BOOLEAN := Sta.start ev_BOOLEAN (Or.inr ⟨(hw _ (List.mem_of_getElem? (i := 6) rfl)), (hw _ (List.mem_of_getElem? (i := 23) rfl))⟩)
  obtain ⟨s_FIELD, ev_FIELD⟩ := exa_v n6
  have E_FIELD := Exa.start ev_FIELD n6
  have S_FIELD := Sta.start ev_FIELD (Or.inr ⟨(hw _ (List.mem_of_getElem? (i := 6) rfl)), (hw _ (List.mem_of_getElem? (i := 25) rfl))⟩)
  obtain ⟨s_SEQUENCE, ev_SEQUENCE⟩ := exa_v n9
  have E_SEQUENCE := Exa.start ev_SEQUENCE n9
  have S_SEQUENCE := Sta.start ev_SEQUENCE (Or.inr ⟨(hw _ (List.mem_of_getElem? (i := 6) rfl)), (hw _ (List.mem_of_getElem? (i := 27) rfl))⟩)
  obtain ⟨s_EXTENSION, ev_EXTENSION⟩ := exa_v n12
  have E_EXTENSION := Exa.start ev_EXTENSION n12
  have S_EXTENSION := Sta.start ev_EXTENSION (Or.inr ⟨(hw _ (List.mem_of_getElem? (i := 6) rfl)), (hw _ (List.mem_of_getElem? (i := 29) rfl))⟩)
  obtain ⟨s_INTEGER, ev_INTEGER⟩ := exa_v n15
  have E_INTEGER := Exa.start ev_INTEGER n15
  have S_INTEGER := Sta.start ev_INTEGER (Or.inr ⟨(hw _ (List.mem_of_getElem? (i := 6) rfl)), (hw _ (List.mem_of_getElem? (i := 31) rfl))⟩)
  obtain ⟨s_ASCII_STRING, ev_ASCII_STRING⟩ := exa_v n18
  have E_ASCII_STRING := Exa.start ev_ASCII_STRING n18
  have S_ASCII_STRING := Sta.start ev_ASCII_STRING (Or.inr ⟨(hw _ (List.mem_of_getElem? (i := 6) rfl)), (hw _ (List.mem_of_getElem? (i := 33) rfl))⟩)
  obtain ⟨s_BIT_STRING, ev_BIT_STRING⟩ := exa_v n21
  have E_BIT_STRING := Exa.start ev_BIT_STRING n21
  have S_BIT_STRING := Sta.start ev_BIT_STRING (Or.inr ⟨(hw _ (List.mem_of_getElem? (i := 6) rfl)), (hw _ (List.mem_of_getElem? (i := 35) rfl))⟩)
  obtain ⟨s_DATE, ev_DATE⟩ := exa_v n24
  have E_DATE := Exa.start ev_DATE n24
  have S_DATE := Sta.start ev_DATE (Or.inr ⟨(hw _ (List.mem_of_getElem? (i := 6) rfl)), (hw _ (List.mem_of_getElem? (i := 37) rfl))⟩)
  obtain ⟨s_PADDING, ev_PADDING⟩ := exa_v n27
  have E_PADDING := Exa.start ev_PADDING n27
  have S_PADDING := Sta.start ev_PADDING (Or.inr ⟨(hw _ (List.mem_of_getElem? (i := 6) rfl)), (hw _ (List.mem_of_getElem? (i := 39) rfl))⟩)
  obtain ⟨s_END_OF_CONSTRUCTOR, ev_END_OF_CONSTRUCTOR⟩ := exa_v n30
  have E_END_OF_CONSTRUCTOR := Exa.start ev_END_OF_CONSTRUCTOR n30
  have S_END_OF_CONSTRUCTOR := Sta.start ev_END_OF_CONSTRUCTOR (Or.inr ⟨(hw _ (List.mem_of_getElem? (i := 6) rfl)), (hw _ (List.mem_of_getElem? (i := 41) rfl))⟩)
  obtain ⟨s_ENCRYPTED, ev_ENCRYPTED⟩ := exa_v n33
  have E_ENCRYPTED := Exa.start ev_ENCRYPTED n33
  have S_ENCRYPTED := Sta.start ev_ENCRYPTED (Or.inr ⟨(hw _ (List.mem_of_getElem? (i := 6) rfl)), (hw _ (List.mem_of_getElem? (i := 43) rfl))⟩)
  obtain ⟨s_VENDOR_DEFINED, ev_VENDOR_DEFINED⟩ := exa_v n36
  have E_VENDOR_DEFINED := Exa.start ev_VENDOR_DEFINED n36
  have S_VENDOR_DEFINED := Sta.start ev_VENDOR_DEFINED (Or.inr ⟨(hw _ (List.mem_of_getElem? (i := 6) rfl)), (hw _ (List.mem_of_getElem? (i := 45) rfl))⟩)
  obtain ⟨s_SET, ev_SET⟩ := exa_v n39
  have E_SET := Exa.start ev_SET n39
  have S_SET := Sta.start ev_SET (Or.inr ⟨(hw _ (List.mem_of_getElem? (i := 6) rfl)), (hw _ (List.mem_of_getElem? (i := 47) rfl))⟩)
  obtain ⟨s_MESSAGE, ev_MESSAGE⟩ := exa_v n42
  have E_MESSAGE := Exa.start ev_MESSAGE n42
  have S_MESSAGE := Sta.start ev_MESSAGE (Or.inr ⟨(hw _ (List.mem_of_getElem? (i := 6) rfl)), (hw _ (List.mem_of_getElem? (i := 49) rfl))⟩)
  obtain ⟨s_UNIQUE_ID, ev_UNIQUE_ID⟩ := exa_v n45
  have E_UNIQUE_ID := Exa.start ev_UNIQUE_ID n45
  have S_UNIQUE_ID := Sta.start ev_UNIQUE_ID (Or.inr ⟨(hw _ (List.mem_of_getElem? (i := 6) rfl)), (hw _ (List.mem_of_getElem? (i := 51) rfl))⟩)
  obtain ⟨s_PROPERTY_LIST, ev_PROPERTY_LIST⟩ := exa_v n48
  have E_PROPERTY_LIST := Exa.start ev_PROPERTY_LIST n48
  have S_PROPERTY_LIST := Sta.start ev_PROPERTY_LIST (Or.inr ⟨(hw _ (List.mem_of_getElem? (i := 6) rfl)), (hw _ (List.mem_of_getElem? (i := 53) rfl))⟩)
  obtain ⟨s_PROPERTY, ev_PROPERTY⟩ := exa_v n51
  have E_PROPERTY := Exa.start ev_PROPERTY n51
  have S_PROPERTY := Sta.start ev_PROPERTY (Or.inr ⟨(hw _ (List.mem_of_getElem? (i := 6) rfl)), (hw _ (List.mem_of_getElem? (i := 55) rfl))⟩)
  obtain ⟨s_COMPRESSED, ev_COMPRESSED⟩ := exa_v n54
  have E_COMPRESSED := Exa.start ev_COMPRESSED n54
  have S_COMPRESSED := Sta.start ev_COMPRESSED (Or.inr ⟨(hw _ (List.mem_of_getElem? (i := 6) rfl)), (hw _ (List.mem_of_getElem? (i := 57) rfl))⟩)
  have o_NO_OP_code := (fld_at ev_NO_OP).symm.trans (own_eqI n1)
  have F_NO_OP_code := Fld.start o_NO_OP_code
  have o_NO_OP_qualifierTag := (fld_at ev_NO_OP).symm.trans (null_v n2)
  have F_NO_OP_qualifierTag := Fld.start o_NO_OP_qualifierTag
  have o_BOOLEAN_code := (fld_at ev_BOOLEAN).symm.trans (own_eqI n4)
  have F_BOOLEAN_code := Fld.start o_BOOLEAN_code
  have o_BOOLEAN_qualifierTag := (fld_at ev_BOOLEAN).symm.trans (null_v n5)
  have F_BOOLEAN_qualifierTag := Fld.start o_BOOLEAN_qualifierTag
  have o_FIELD_code := (fld_at ev_FIELD).symm.trans (own_eqI n7)
  have F_FIELD_code := Fld.start o_FIELD_code
  obtain ⟨t_FIELD_qualifierTag, ev_t_FIELD_qualifierTag⟩ := exa_v n8
  have o_FIELD_qualifierTag := (fld_at ev_FIELD).symm.trans ev_t_FIELD_qualifierTag
  have F_FIELD_qualifierTag := Fld.start o_FIELD_qualifierTag
  have o_SEQUENCE_code := (fld_at ev_SEQUENCE).symm.trans (own_eqI n10)
  have F_SEQUENCE_code := Fld.start o_SEQUENCE_code
  have o_SEQUENCE_qualifierTag := (fld_at ev_SEQUENCE).symm.trans (null_v n11)
  have F_SEQUENCE_qualifierTag := Fld.start o_SEQUENCE_qualifierTag
  have o_EXTENSION_code := (fld_at ev_EXTENSION).symm.trans (own_eqI n13)
  have F_EXTENSION_code := Fld.start o_EXTENSION_code
  have o_INTEGER_code := (fld_at ev_INTEGER).symm.trans (own_eqI n16)
  have F_INTEGER_code := Fld.start o_INTEGER_code
  have o_INTEGER_qualifierTag := (fld_at ev_INTEGER).symm.trans (null_v n17)
  have F_INTEGER_qualifierTag := Fld.start o_INTEGER_qualifierTag
  have o_ASCII_STRING_code := (fld_at ev_ASCII_STRING).symm.trans (own_eqI n19)
  have F_ASCII_STRING_code := Fld.start o_ASCII_STRING_code
  have o_ASCII_STRING_qualifierTag := (fld_at ev_ASCII_STRING).symm.trans (null_v n20)
  have F_ASCII_STRING_qualifierTag := Fld.start o_ASCII_STRING_qualifierTag
  have o_BIT_STRING_code := (fld_at ev_BIT_STRING).symm.trans (own_eqI n22)
  have F_BIT_STRING_code := Fld.start o_BIT_STRING_code
  obtain ⟨t_BIT_STRING_qualifierTag, ev_t_BIT_STRING_qualifierTag⟩ := exa_v n23
  have o_BIT_STRING_qualifierTag := (fld_at ev_BIT_STRING).symm.trans ev_t_BIT_STRING_qualifierTag
  have F_BIT_STRING_qualifierTag := Fld.start o_BIT_STRING_qualifierTag
  have o_DATE_code := (fld_at ev_DATE).symm.trans (own_eqI n25)
  have F_DATE_code := Fld.start o_DATE_code
  have o_DATE_qualifierTag := (fld_at ev_DATE).symm.trans (null_v n26)
  have F_DATE_qualifierTag := Fld.start o_DATE_qualifierTag
  have o_PADDING_code := (fld_at ev_PADDING).symm.trans (own_eqI n28)
  have F_PADDING_code := Fld.start o_PADDING_code
  have o_PADDING_qualifierTag := (fld_at ev_PADDING).symm.trans (null_v n29)
  have F_PADDING_qualifierTag := Fld.start o_PADDING_qualifierTag
  have o_END_OF_CONSTRUCTOR_code := (fld_at ev_END_OF_CONSTRUCTOR).symm.trans (own_eqI n31)
  have F_END_OF_CONSTRUCTOR_code := Fld.start o_END_OF_CONSTRUCTOR_code
  have o_END_OF_CONSTRUCTOR_qualifierTag := (fld_at ev_END_OF_CONSTRUCTOR).symm.trans (null_v n32)
  have F_END_OF_CONSTRUCTOR_qualifierTag := Fld.start o_END_OF_CONSTRUCTOR_qualifierTag
  have o_ENCRYPTED_code := (fld_at ev_ENCRYPTED).symm.trans (own_eqI n34)
  have F_ENCRYPTED_code := Fld.start o_ENCRYPTED_code
  obtain ⟨t_ENCRYPTED_qualifierTag, ev_t_ENCRYPTED_qualifierTag⟩ := exa_v n35
  have o_ENCRYPTED_qualifierTag := (fld_at ev_ENCRYPTED).symm.trans ev_t_ENCRYPTED_qualifierTag
  have F_ENCRYPTED_qualifierTag := Fld.start o_ENCRYPTED_qualifierTag
  have o_VENDOR_DEFINED_code := (fld_at ev_VENDOR_DEFINED).symm.trans (own_eqI n37)
  have F_VENDOR_DEFINED_code := Fld.start o_VENDOR_DEFINED_code
  have o_SET_code := (fld_at ev_SET).symm.trans (own_eqI n40)
  have F_SET_code := Fld.start o_SET_code
  have o_SET_qualifierTag := (fld_at ev_SET).symm.trans (null_v n41)
  have F_SET_qualifierTag := Fld.start o_SET_qualifierTag
  have o_MESSAGE_code := (fld_at ev_MESSAGE).symm.trans (own_eqI n43)
  have F_MESSAGE_code := Fld.start o_MESSAGE_code
  obtain ⟨t_MESSAGE_qualifierTag, ev_t_MESSAGE_qualifierTag⟩ := exa_v n44
  have o_MESSAGE_qualifierTag := (fld_at ev_MESSAGE).symm.trans ev_t_MESSAGE_qualifierTag
  have F_MESSAGE_qualifierTag := Fld.start o_MESSAGE_qualifierTag
  have o_UNIQUE_ID_code := (fld_at ev_UNIQUE_ID).symm.trans (own_eqI n46)
  have F_UNIQUE_ID_code := Fld.start o_UNIQUE_ID_code
  have o_UNIQUE_ID_qualifierTag := (fld_at ev_UNIQUE_ID).symm.trans (null_v n47)
  have F_UNIQUE_ID_qualifierTag := Fld.start o_UNIQUE_ID_qualifierTag
  have o_PROPERTY_LIST_code := (fld_at ev_PROPERTY_LIST).symm.trans (own_eqI n49)
  have F_PROPERTY_LIST_code := Fld.start o_PROPERTY_LIST_code
  have o_PROPERTY_LIST_qualifierTag := (fld_at ev_PROPERTY_LIST).symm.trans (null_v n50)
  have F_PROPERTY_LIST_qualifierTag := Fld.start o_PROPERTY_LIST_qualifierTag
  have o_PROPERTY_code := (fld_at ev_PROPERTY).symm.trans (own_eqI n52)
  have F_PROPERTY_code := Fld.start o_PROPERTY_code
  have o_COMPRESSED_code := (fld_at ev_COMPRESSED).symm.trans (own_eqI n55)
  have F_COMPRESSED_code := Fld.start o_COMPRESSED_code
  have o_EXTENSION_qualifierTag := (fld_at ev_EXTENSION).symm.trans (own_eqR n14 ev_t_FIELD_qualifierTag)
  have F_EXTENSION_qualifierTag := Fld.start o_EXTENSION_qualifierTag
  have o_VENDOR_DEFINED_qualifierTag := (fld_at ev_VENDOR_DEFINED).symm.trans (own_eqR n38 ev_t_FIELD_qualifierTag)
  have F_VENDOR_DEFINED_qualifierTag := Fld.start o_VENDOR_DEFINED_qualifierTag
  have o_PROPERTY_qualifierTag := (fld_at ev_PROPERTY).symm.trans (own_eqR n53 ev_t_FIELD_qualifierTag)
  have F_PROPERTY_qualifierTag := Fld.start o_PROPERTY_qualifierTag
  have o_COMPRESSED_qualifierTag := (fld_at ev_COMPRESSED).symm.trans (own_eqR n56 ev_t_ENCRYPTED_qualifierTag)
  have F_COMPRESSED_qualifierTag := Fld.start o_COMPRESSED_qualifierTag
  obtain ⟨n, o, h1, h2, h3, _, L, rfl, ⟨rfl, N, _⟩, hq⟩ := rm0 l s _ hw tables_1 s.heap s.heap.size s_NO_OP s_END_OF_CONSTRUCTOR s_ASCII_STRING s_BOOLEAN s_UNIQUE_ID s_SEQUENCE s_SET s_INTEGER s_PADDING s_PROPERTY_LIST s_DATE s_BIT_STRING t_BIT_STRING_qualifierTag s_PROPERTY s_FIELD t_FIELD_qualifierTag s_COMPRESSED s_ENCRYPTED t_ENCRYPTED_qualifierTag s_MESSAGE t_MESSAGE_qualifierTag s_EXTENSION s_VENDOR_DEFINED ⟨S_NO_OP, F_NO_OP_code, E_NO_OP, F_NO_OP_qualifierTag, S_END_OF_CONSTRUCTOR, F_END_OF_CONSTRUCTOR_code, E_END_OF_CONSTRUCTOR, F_END_OF_CONSTRUCTOR_qualifierTag, S_ASCII_STRING, F_ASCII_STRING_code, E_ASCII_STRING, F_ASCII_STRING_qualifierTag, S_BOOLEAN, F_BOOLEAN_code, E_BOOLEAN, F_BOOLEAN_qualifierTag, S_UNIQUE_ID, F_UNIQUE_ID_code, E_UNIQUE_ID, F_UNIQUE_ID_qualifierTag, S_SEQUENCE, F_SEQUENCE_code, E_SEQUENCE, F_SEQUENCE_qualifierTag, S_SET, F_SET_code, E_SET, F_SET_qualifierTag, S_INTEGER, F_INTEGER_code, E_INTEGER, F_INTEGER_qualifierTag, S_PADDING, F_PADDING_code, E_PADDING, F_PADDING_qualifierTag, S_PROPERTY_LIST, F_PROPERTY_LIST_code, E_PROPERTY_LIST, F_PROPERTY_LIST_qualifierTag, S_DATE, F_DATE_code, E_DATE, F_DATE_qualifierTag, S_BIT_STRING, F_BIT_STRING_code, E_BIT_STRING, F_BIT_STRING_qualifierTag, S_PROPERTY, F_PROPERTY_code, E_PROPERTY, F_PROPERTY_qualifierTag, S_COMPRESSED, F_COMPRESSED_code, E_COMPRESSED, F_COMPRESSED_qualifierTag, S_ENCRYPTED, F_ENCRYPTED_code, E_ENCRYPTED, F_ENCRYPTED_qualifierTag, S_FIELD, F_FIELD_code, E_FIELD, F_FIELD_qualifierTag, S_MESSAGE, F_MESSAGE_code, E_MESSAGE, F_MESSAGE_qualifierTag, S_EXTENSION, F_EXTENSION_code, E_EXTENSION, F_EXTENSION_qualifierTag, S_VENDOR_DEFINED, F_VENDOR_DEFINED_code, E_VENDOR_DEFINED, F_VENDOR_DEFINED_qualifierTag⟩ p0 p e ha hc hk s m _ below hf ((Spec.applies_iff_loose hf).mp happ).1 ⟨rfl, State.Warmed39.refl s, rfl⟩ trivial
  refine ⟨n, _, h1, h2, h3, hpost _ _ _ _ _ _ ⟨Cond.after_iff.mpr rfl, Cond.after_iff.mpr (eq_i res_at (Term.int_eval (1)) rfl), trivial⟩ ⟨hq.1, hq.2.1, (hq.2.2.sift fun y hy => Or.inr (N y hy)).mono (by decide) (by decide)⟩⟩
theorem main_1_1 : Claimed_1_1 := comes_1 fun _ _ _ _ _ _ h hF => ⟨h.1, hF⟩
theorem main_1_2 : Claimed_1_2 := comes_1 fun _ _ _ _ _ _ h hF => ⟨h.2.1, hF⟩
end Jvm.Pilot.@@N@@
namespace Jvm.Pilot.@@N@@
open Jvm Jvm.ClassFile Sem Op Lib Jvm.Free Jvm.Stand Jvm.Pilot.@@N@@.Jvm.D
/-! MADE BY PROGRAM (witnessworld.py) out of the Statement's table words and the real class files: 13 classes; the members and pool entries that the words name. The judged class is class 1, her method 2. -/
namespace start1
open Jvm.ClassFile
def u (s : String) : CpInfo := .utf8 (stringToUtf16 s)
/-- a pool by its gaps: so many unusable entries, then the entry; so many at the end -/
def gap : Nat → List CpInfo → List CpInfo
  | 0, r => r
  | n + 1, r => .unusable :: gap n r
def poolList (es : List (Nat × CpInfo)) (last : Nat) : List CpInfo := es.foldr (fun e r => gap e.1 (e.2 :: r)) (gap last [])
def pool (es : List (Nat × CpInfo)) (last : Nat) : Array CpInfo := ⟨poolList es last⟩
def fileOf (pool : Array CpInfo) (this : Nat) (attrs : Array Attribute := #[]) (ms : Array MethodInfo := #[]) (fl : Nat := 33) (sup : Nat := 0) (ifs : Array Nat := #[]) (fds : Array FieldInfo := #[]) : ClassFile where
  minorVersion := 0
  majorVersion := 65
  constantPool := pool
  accessFlags := fl
  thisClass := this
  superClass := sup
  interfaces := ifs
  fields := fds
  methods := ms
  attributes := attrs
def plain (name : String) (sup : Option ClassId) : Class where
  name := name
  kind := .ordinary
  loader := none
  accessFlags := 33
  super := sup
  interfaces := #[]
  cf := none
  fields := #[]
  methods := #[]
  instanceTypes := #[]
  staticTypes := #[]
  resolved := #[]
  callSites := []
  init := .initialized
  statics := none
  mirror := none

def pool0 : Array CpInfo := pool [(5, u "<init>"), (0, u "()V"), (1, .class_ 10), (1, u "java/lang/Object")] 113

def k0m0 : Method := { name := "<init>", desc := "()V", sig := { parameters := [], returnType := none }, accessFlags := 1, code := none }
/-- java/lang/Object -/
def k0 : Class := { plain "java/lang/Object" none with
  accessFlags := 33
  interfaces := #[]
  cf := some (fileOf pool0 8 #[] #[{ accessFlags := 1, nameIndex := 5, descriptorIndex := 6, attributes := #[] }] 33 0 #[] #[])
  fields := #[]
  methods := #[k0m0]
  instanceTypes := #[]
  staticTypes := #[]
  resolved := Array.replicate 124 none
  statics := none }

def pool1 : Array CpInfo := pool [(2, .class_ 4), (1, u "java/lang/Object"), (0, u "<init>"), (0, u "()V"), (0, .fieldref 8 9), (0, .class_ 10), (0, .nameAndType 11 12), (0, u "com/example/plainwire/plainwire/rfc806/Element"), (0, u "NO_OP"), (0, u "Lcom/example/plainwire/plainwire/rfc806/Element;"), (0, .fieldref 8 14), (0, .nameAndType 15 12), (0, u "END_OF_CONSTRUCTOR"), (0, .fieldref 8 17), (0, .nameAndType 18 12), (0, u "ASCII_STRING"), (0, .fieldref 8 20), (0, .nameAndType 21 12), (0, u "BOOLEAN"), (0, .fieldref 8 23), (0, .nameAndType 24 12), (0, u "UNIQUE_ID"), (0, .fieldref 8 26), (0, .nameAndType 27 12), (0, u "SEQUENCE"), (0, .fieldref 8 29), (0, .nameAndType 30 12), (0, u "SET"), (0, .fieldref 8 32), (0, .nameAndType 33 12), (0, u "INTEGER"), (0, .fieldref 8 35), (0, .nameAndType 36 12), (0, u "PADDING"), (0, .fieldref 8 38), (0, .nameAndType 39 12), (0, u "PROPERTY_LIST"), (0, .fieldref 8 41), (0, .nameAndType 42 12), (0, u "DATE"), (0, .fieldref 8 44), (0, .nameAndType 45 12), (0, u "BIT_STRING"), (0, .fieldref 8 47), (0, .nameAndType 48 12), (0, u "PROPERTY"), (0, .fieldref 8 50), (0, .nameAndType 51 12), (0, u "COMPRESSED"), (0, .fieldref 8 53), (0, .nameAndType 54 12), (0, u "ENCRYPTED"), (0, .fieldref 8 56), (0, .nameAndType 57 12), (0, u "FIELD"), (0, .fieldref 8 59), (0, .nameAndType 60 12), (0, u "MESSAGE"), (0, .fieldref 8 62), (0, .nameAndType 63 12), (0, u "EXTENSION"), (0, .fieldref 8 65), (0, .nameAndType 66 12), (0, u "VENDOR_DEFINED"), (0, .integer 2147483647), (0, .methodref 69 70), (0, .class_ 71), (0, .nameAndType 72 73), (0, u "com/example/plainwire/plainwire/rfc806/ElementQualifiedPinLaw"), (0, u "pick"), (0, u "(I)Lcom/example/plainwire/plainwire/rfc806/Element;"), (0, .methodref 8 75), (0, .nameAndType 76 77), (0, u "qualified"), (0, u "()Z"), (0, .methodref 8 79), (0, .nameAndType 80 81), (0, u "qualifierTag"), (0, u "()Ljava/lang/String;"), (3, u "law"), (0, u "(I)Z")] 2

def k1m0 : Method := { name := "<init>", desc := "()V", sig := { parameters := [], returnType := none }, accessFlags := 2, code := none }
def k1c1 : Code := { maxStack := 2, maxLocals := 1, code := method_2_code, exceptionTable := #[], attributes := #[] }
def k1m1 : Method := { name := "pick", desc := "(I)Lcom/example/plainwire/plainwire/rfc806/Element;", sig := { parameters := [.int], returnType := some (.object "com/example/plainwire/plainwire/rfc806/Element") }, accessFlags := 10, code := some k1c1 }
def k1c2 : Code := { maxStack := 2, maxLocals := 6, code := code, exceptionTable := #[], attributes := #[] }
def k1m2 : Method := { name := "law", desc := "(I)Z", sig := { parameters := [.int], returnType := some .boolean }, accessFlags := 9, code := some k1c2 }
/-- com/example/plainwire/plainwire/rfc806/ElementQualifiedPinLaw -/
def k1 : Class := { plain "com/example/plainwire/plainwire/rfc806/ElementQualifiedPinLaw" (some 0) with
  accessFlags := 49
  interfaces := #[]
  cf := some (fileOf pool1 69 #[] #[{ accessFlags := 2, nameIndex := 5, descriptorIndex := 6, attributes := #[] }, { accessFlags := 10, nameIndex := 72, descriptorIndex := 73, attributes := #[] }, { accessFlags := 9, nameIndex := 85, descriptorIndex := 86, attributes := #[] }] 49 2 #[] #[])
  fields := #[]
  methods := #[k1m0, k1m1, k1m2]
  instanceTypes := #[]
  staticTypes := #[]
  resolved := Array.replicate 89 none
  statics := none }

def pool2 : Array CpInfo := pool [(1, .class_ 2), (0, u "java/lang/constant/Constable"), (0, .class_ 4), (0, u "java/lang/Object")] 6

/-- java/lang/constant/Constable -/
def k2 : Class := { plain "java/lang/constant/Constable" (some 0) with
  accessFlags := 1537
  interfaces := #[]
  cf := some (fileOf pool2 1 #[] #[] 1537 3 #[] #[])
  fields := #[]
  methods := #[]
  instanceTypes := #[]
  staticTypes := #[]
  resolved := Array.replicate 11 none
  statics := none }

def pool3 : Array CpInfo := pool [(1, .class_ 2), (0, u "java/lang/Comparable"), (0, .class_ 4), (0, u "java/lang/Object")] 7

/-- java/lang/Comparable -/
def k3 : Class := { plain "java/lang/Comparable" (some 0) with
  accessFlags := 1537
  interfaces := #[]
  cf := some (fileOf pool3 1 #[] #[] 1537 3 #[] #[])
  fields := #[]
  methods := #[]
  instanceTypes := #[]
  staticTypes := #[]
  resolved := Array.replicate 12 none
  statics := none }

def pool4 : Array CpInfo := pool [(1, .class_ 2), (0, u "java/io/Serializable"), (0, .class_ 4), (0, u "java/lang/Object")] 2

/-- java/io/Serializable -/
def k4 : Class := { plain "java/io/Serializable" (some 0) with
  accessFlags := 1537
  interfaces := #[]
  cf := some (fileOf pool4 1 #[] #[] 1537 3 #[] #[])
  fields := #[]
  methods := #[]
  instanceTypes := #[]
  staticTypes := #[]
  resolved := Array.replicate 7 none
  statics := none }

def pool5 : Array CpInfo := pool [(2, .class_ 4), (1, u "java/lang/Enum"), (0, u "name"), (0, u "Ljava/lang/String;"), (2, u "ordinal"), (0, u "I"), (1, .class_ 14), (1, u "java/lang/Object"), (4, u "hash"), (86, .class_ 108), (1, u "java/lang/Enum$EnumDesc"), (2, .class_ 112), (0, u "java/lang/constant/Constable"), (0, .class_ 114), (0, u "java/lang/Comparable"), (0, .class_ 116), (0, u "java/io/Serializable")] 87

/-- java/lang/Enum -/
def k5 : Class := { plain "java/lang/Enum" (some 0) with
  accessFlags := 1057
  interfaces := #[2, 3, 4]
  cf := some (fileOf pool5 2 #[.nestMembers #[106]] #[] 1057 12 #[111, 113, 115] #[{ accessFlags := 18, nameIndex := 5, descriptorIndex := 6, attributes := #[] }, { accessFlags := 18, nameIndex := 9, descriptorIndex := 10, attributes := #[] }, { accessFlags := 2, nameIndex := 19, descriptorIndex := 10, attributes := #[] }])
  fields := #[{ name := "name", type := (.object "java/lang/String"), accessFlags := 18, slot := 0, constantValue := 0 }, { name := "ordinal", type := .int, accessFlags := 18, slot := 1, constantValue := 0 }, { name := "hash", type := .int, accessFlags := 2, slot := 2, constantValue := 0 }]
  methods := #[]
  instanceTypes := #[(.object "java/lang/String"), .int, .int]
  staticTypes := #[]
  resolved := Array.replicate 204 none
  statics := none }

def pool6 : Array CpInfo := pool [(1, .class_ 2), (0, u "com/example/plainwire/plainwire/rfc806/Element"), (2, u "NO_OP"), (0, u "Lcom/example/plainwire/plainwire/rfc806/Element;"), (2, u "END_OF_CONSTRUCTOR"), (2, u "ASCII_STRING"), (2, u "BOOLEAN"), (2, u "UNIQUE_ID"), (2, u "SEQUENCE"), (2, u "SET"), (2, u "INTEGER"), (2, u "PADDING"), (2, u "PROPERTY_LIST"), (2, u "DATE"), (2, u "BIT_STRING"), (2, u "PROPERTY"), (2, u "COMPRESSED"), (2, u "ENCRYPTED"), (2, u "FIELD"), (2, u "MESSAGE"), (2, u "EXTENSION"), (2, u "VENDOR_DEFINED"), (2, u "$VALUES"), (0, u "[Lcom/example/plainwire/plainwire/rfc806/Element;"), (6, .class_ 73), (1, u "java/lang/Enum"), (15, .fieldref 1 90), (0, .nameAndType 91 92), (0, u "code"), (0, u "I"), (2, u "text"), (0, u "Ljava/lang/String;"), (2, u "kind"), (0, u "Lcom/example/plainwire/plainwire/rfc806/Element$Kind;"), (0, .fieldref 1 102), (0, .nameAndType 103 96), (0, u "qualifierTag"), (2, u "qualifierNames"), (0, u "Ljava/util/Map;"), (29, u "qualifierNumbers"), (2, u "BY_CODE"), (17, u "BY_NAME"), (6, .class_ 167), (1, u "com/example/plainwire/plainwire/rfc806/Element$Kind"), (76, .class_ 246), (1, u "com/example/plainwire/plainwire/rfc806/Element$Names"), (67, u "qualified"), (0, u "()Z"), (1, u "()Ljava/lang/String;")] 55

def k6c0 : Code := { maxStack := 2, maxLocals := 1, code := prog_101_method_9_code, exceptionTable := #[], attributes := #[] }
def k6m0 : Method := { name := "qualified", desc := "()Z", sig := { parameters := [], returnType := some .boolean }, accessFlags := 0, code := some k6c0 }
def k6c1 : Code := { maxStack := 1, maxLocals := 1, code := prog_101_method_10_code, exceptionTable := #[], attributes := #[] }
def k6m1 : Method := { name := "qualifierTag", desc := "()Ljava/lang/String;", sig := { parameters := [], returnType := some (.object "java/lang/String") }, accessFlags := 0, code := some k6c1 }
/-- com/example/plainwire/plainwire/rfc806/Element -/
def k6 : Class := { plain "com/example/plainwire/plainwire/rfc806/Element" (some 5) with
  accessFlags := 16432
  interfaces := #[]
  cf := some (fileOf pool6 1 #[.nestMembers #[244, 165]] #[{ accessFlags := 0, nameIndex := 314, descriptorIndex := 315, attributes := #[] }, { accessFlags := 0, nameIndex := 103, descriptorIndex := 317, attributes := #[] }] 16432 71 #[] #[{ accessFlags := 16409, nameIndex := 5, descriptorIndex := 6, attributes := #[] }, { accessFlags := 16409, nameIndex := 9, descriptorIndex := 6, attributes := #[] }, { accessFlags := 16409, nameIndex := 12, descriptorIndex := 6, attributes := #[] }, { accessFlags := 16409, nameIndex := 15, descriptorIndex := 6, attributes := #[] }, { accessFlags := 16409, nameIndex := 18, descriptorIndex := 6, attributes := #[] }, { accessFlags := 16409, nameIndex := 21, descriptorIndex := 6, attributes := #[] }, { accessFlags := 16409, nameIndex := 24, descriptorIndex := 6, attributes := #[] }, { accessFlags := 16409, nameIndex := 27, descriptorIndex := 6, attributes := #[] }, { accessFlags := 16409, nameIndex := 30, descriptorIndex := 6, attributes := #[] }, { accessFlags := 16409, nameIndex := 33, descriptorIndex := 6, attributes := #[] }, { accessFlags := 16409, nameIndex := 36, descriptorIndex := 6, attributes := #[] }, { accessFlags := 16409, nameIndex := 39, descriptorIndex := 6, attributes := #[] }, { accessFlags := 16409, nameIndex := 42, descriptorIndex := 6, attributes := #[] }, { accessFlags := 16409, nameIndex := 45, descriptorIndex := 6, attributes := #[] }, { accessFlags := 16409, nameIndex := 48, descriptorIndex := 6, attributes := #[] }, { accessFlags := 16409, nameIndex := 51, descriptorIndex := 6, attributes := #[] }, { accessFlags := 16409, nameIndex := 54, descriptorIndex := 6, attributes := #[] }, { accessFlags := 16409, nameIndex := 57, descriptorIndex := 6, attributes := #[] }, { accessFlags := 16409, nameIndex := 60, descriptorIndex := 6, attributes := #[] }, { accessFlags := 26, nameIndex := 140, descriptorIndex := 107, attributes := #[] }, { accessFlags := 26, nameIndex := 158, descriptorIndex := 107, attributes := #[] }, { accessFlags := 18, nameIndex := 91, descriptorIndex := 92, attributes := #[] }, { accessFlags := 18, nameIndex := 95, descriptorIndex := 96, attributes := #[] }, { accessFlags := 18, nameIndex := 99, descriptorIndex := 100, attributes := #[] }, { accessFlags := 18, nameIndex := 103, descriptorIndex := 96, attributes := #[] }, { accessFlags := 18, nameIndex := 106, descriptorIndex := 107, attributes := #[] }, { accessFlags := 18, nameIndex := 137, descriptorIndex := 107, attributes := #[] }, { accessFlags := 4122, nameIndex := 63, descriptorIndex := 64, attributes := #[] }])
  fields := #[{ name := "NO_OP", type := (.object "com/example/plainwire/plainwire/rfc806/Element"), accessFlags := 16409, slot := 0, constantValue := 0 }, { name := "END_OF_CONSTRUCTOR", type := (.object "com/example/plainwire/plainwire/rfc806/Element"), accessFlags := 16409, slot := 1, constantValue := 0 }, { name := "ASCII_STRING", type := (.object "com/example/plainwire/plainwire/rfc806/Element"), accessFlags := 16409, slot := 2, constantValue := 0 }, { name := "BOOLEAN", type := (.object "com/example/plainwire/plainwire/rfc806/Element"), accessFlags := 16409, slot := 3, constantValue := 0 }, { name := "UNIQUE_ID", type := (.object "com/example/plainwire/plainwire/rfc806/Element"), accessFlags := 16409, slot := 4, constantValue := 0 }, { name := "SEQUENCE", type := (.object "com/example/plainwire/plainwire/rfc806/Element"), accessFlags := 16409, slot := 5, constantValue := 0 }, { name := "SET", type := (.object "com/example/plainwire/plainwire/rfc806/Element"), accessFlags := 16409, slot := 6, constantValue := 0 }, { name := "INTEGER", type := (.object "com/example/plainwire/plainwire/rfc806/Element"), accessFlags := 16409, slot := 7, constantValue := 0 }, { name := "PADDING", type := (.object "com/example/plainwire/plainwire/rfc806/Element"), accessFlags := 16409, slot := 8, constantValue := 0 }, { name := "PROPERTY_LIST", type := (.object "com/example/plainwire/plainwire/rfc806/Element"), accessFlags := 16409, slot := 9, constantValue := 0 }, { name := "DATE", type := (.object "com/example/plainwire/plainwire/rfc806/Element"), accessFlags := 16409, slot := 10, constantValue := 0 }, { name := "BIT_STRING", type := (.object "com/example/plainwire/plainwire/rfc806/Element"), accessFlags := 16409, slot := 11, constantValue := 0 }, { name := "PROPERTY", type := (.object "com/example/plainwire/plainwire/rfc806/Element"), accessFlags := 16409, slot := 12, constantValue := 0 }, { name := "COMPRESSED", type := (.object "com/example/plainwire/plainwire/rfc806/Element"), accessFlags := 16409, slot := 13, constantValue := 0 }, { name := "ENCRYPTED", type := (.object "com/example/plainwire/plainwire/rfc806/Element"), accessFlags := 16409, slot := 14, constantValue := 0 }, { name := "FIELD", type := (.object "com/example/plainwire/plainwire/rfc806/Element"), accessFlags := 16409, slot := 15, constantValue := 0 }, { name := "MESSAGE", type := (.object "com/example/plainwire/plainwire/rfc806/Element"), accessFlags := 16409, slot := 16, constantValue := 0 }, { name := "EXTENSION", type := (.object "com/example/plainwire/plainwire/rfc806/Element"), accessFlags := 16409, slot := 17, constantValue := 0 }, { name := "VENDOR_DEFINED", type := (.object "com/example/plainwire/plainwire/rfc806/Element"), accessFlags := 16409, slot := 18, constantValue := 0 }, { name := "BY_CODE", type := (.object "java/util/Map"), accessFlags := 26, slot := 19, constantValue := 0 }, { name := "BY_NAME", type := (.object "java/util/Map"), accessFlags := 26, slot := 20, constantValue := 0 }, { name := "code", type := .int, accessFlags := 18, slot := 3, constantValue := 0 }, { name := "text", type := (.object "java/lang/String"), accessFlags := 18, slot := 4, constantValue := 0 }, { name := "kind", type := (.object "com/example/plainwire/plainwire/rfc806/Element$Kind"), accessFlags := 18, slot := 5, constantValue := 0 }, { name := "qualifierTag", type := (.object "java/lang/String"), accessFlags := 18, slot := 6, constantValue := 0 }, { name := "qualifierNames", type := (.object "java/util/Map"), accessFlags := 18, slot := 7, constantValue := 0 }, { name := "qualifierNumbers", type := (.object "java/util/Map"), accessFlags := 18, slot := 8, constantValue := 0 }, { name := "$VALUES", type := (.array (.object "com/example/plainwire/plainwire/rfc806/Element")), accessFlags := 4122, slot := 21, constantValue := 0 }]
  methods := #[k6m0, k6m1]
  instanceTypes := #[(.object "java/lang/String"), .int, .int, .int, (.object "java/lang/String"), (.object "com/example/plainwire/plainwire/rfc806/Element$Kind"), (.object "java/lang/String"), (.object "java/util/Map"), (.object "java/util/Map")]
  staticTypes := #[(.object "com/example/plainwire/plainwire/rfc806/Element"), (.object "com/example/plainwire/plainwire/rfc806/Element"), (.object "com/example/plainwire/plainwire/rfc806/Element"), (.object "com/example/plainwire/plainwire/rfc806/Element"), (.object "com/example/plainwire/plainwire/rfc806/Element"), (.object "com/example/plainwire/plainwire/rfc806/Element"), (.object "com/example/plainwire/plainwire/rfc806/Element"), (.object "com/example/plainwire/plainwire/rfc806/Element"), (.object "com/example/plainwire/plainwire/rfc806/Element"), (.object "com/example/plainwire/plainwire/rfc806/Element"), (.object "com/example/plainwire/plainwire/rfc806/Element"), (.object "com/example/plainwire/plainwire/rfc806/Element"), (.object "com/example/plainwire/plainwire/rfc806/Element"), (.object "com/example/plainwire/plainwire/rfc806/Element"), (.object "com/example/plainwire/plainwire/rfc806/Element"), (.object "com/example/plainwire/plainwire/rfc806/Element"), (.object "com/example/plainwire/plainwire/rfc806/Element"), (.object "com/example/plainwire/plainwire/rfc806/Element"), (.object "com/example/plainwire/plainwire/rfc806/Element"), (.object "java/util/Map"), (.object "java/util/Map"), (.array (.object "com/example/plainwire/plainwire/rfc806/Element"))]
  resolved := Array.replicate 373 none
  statics := some 0 }

def pool7 : Array CpInfo := pool [(2, .class_ 4), (1, u "java/lang/CharSequence"), (42, .class_ 48), (0, u "java/lang/CharSequence$1CodePointIterator"), (10, .class_ 60), (0, u "java/lang/CharSequence$1CharIterator"), (5, .class_ 67), (0, u "java/lang/Object")] 63

/-- java/lang/CharSequence -/
def k7 : Class := { plain "java/lang/CharSequence" (some 0) with
  accessFlags := 1537
  interfaces := #[]
  cf := some (fileOf pool7 2 #[.nestMembers #[47, 59]] #[] 1537 66 #[] #[])
  fields := #[]
  methods := #[]
  instanceTypes := #[]
  staticTypes := #[]
  resolved := Array.replicate 131 none
  statics := none }

def pool8 : Array CpInfo := pool [(1, .class_ 2), (0, u "java/lang/constant/ConstantDesc"), (0, .class_ 4), (0, u "java/lang/Object")] 32

/-- java/lang/constant/ConstantDesc -/
def k8 : Class := { plain "java/lang/constant/ConstantDesc" (some 0) with
  accessFlags := 1537
  interfaces := #[]
  cf := some (fileOf pool8 1 #[] #[] 1537 3 #[] #[])
  fields := #[]
  methods := #[]
  instanceTypes := #[]
  staticTypes := #[]
  resolved := Array.replicate 37 none
  statics := none }

def pool9 : Array CpInfo := pool [(2, .class_ 4), (1, u "java/lang/Object"), (0, u "<init>"), (0, u "()V"), (3, .class_ 12), (1, u "java/lang/String"), (0, u "value"), (0, u "[B"), (2, u "coder"), (0, u "B"), (2, u "hash"), (0, u "I"), (2, u "hashIsZero"), (0, u "Z"), (13, u "COMPACT_STRINGS"), (534, .class_ 576), (0, u "java/lang/CharSequence"), (22, u "CASE_INSENSITIVE_ORDER"), (0, u "Ljava/util/Comparator;"), (500, u "serialPersistentFields"), (0, u "[Ljava/io/ObjectStreamField;"), (0, .class_ 1104), (0, u "java/lang/String$CaseInsensitiveComparator"), (1, .class_ 1107), (0, u "java/io/Serializable"), (0, .class_ 1109), (0, u "java/lang/Comparable"), (0, .class_ 1111), (0, u "java/lang/constant/Constable"), (0, .class_ 1113), (0, u "java/lang/constant/ConstantDesc"), (2, u "serialVersionUID"), (0, u "J"), (3, u "REPL"), (0, u "C"), (2, u "LATIN1"), (1, u "UTF16")] 323

def k9m0 : Method := { name := "<init>", desc := "()V", sig := { parameters := [], returnType := none }, accessFlags := 1, code := none }
/-- java/lang/String -/
def k9 : Class := { plain "java/lang/String" (some 0) with
  accessFlags := 49
  interfaces := #[4, 3, 7, 2, 8]
  cf := some (fileOf pool9 10 #[.nestMembers #[1103]] #[{ accessFlags := 1, nameIndex := 5, descriptorIndex := 6, attributes := #[] }] 49 2 #[1106, 1108, 575, 1110, 1112] #[{ accessFlags := 18, nameIndex := 13, descriptorIndex := 14, attributes := #[] }, { accessFlags := 18, nameIndex := 17, descriptorIndex := 18, attributes := #[] }, { accessFlags := 2, nameIndex := 21, descriptorIndex := 22, attributes := #[] }, { accessFlags := 2, nameIndex := 25, descriptorIndex := 26, attributes := #[] }, { accessFlags := 26, nameIndex := 1116, descriptorIndex := 1117, attributes := #[] }, { accessFlags := 24, nameIndex := 40, descriptorIndex := 26, attributes := #[] }, { accessFlags := 26, nameIndex := 1101, descriptorIndex := 1102, attributes := #[] }, { accessFlags := 26, nameIndex := 1121, descriptorIndex := 1122, attributes := #[] }, { accessFlags := 25, nameIndex := 599, descriptorIndex := 600, attributes := #[] }, { accessFlags := 24, nameIndex := 1125, descriptorIndex := 18, attributes := #[] }, { accessFlags := 24, nameIndex := 1127, descriptorIndex := 18, attributes := #[] }])
  fields := #[{ name := "value", type := (.array .byte), accessFlags := 18, slot := 0, constantValue := 0 }, { name := "coder", type := .byte, accessFlags := 18, slot := 1, constantValue := 0 }, { name := "hash", type := .int, accessFlags := 2, slot := 2, constantValue := 0 }, { name := "hashIsZero", type := .boolean, accessFlags := 2, slot := 3, constantValue := 0 }, { name := "serialVersionUID", type := .long, accessFlags := 26, slot := 0, constantValue := 0 }, { name := "COMPACT_STRINGS", type := .boolean, accessFlags := 24, slot := 1, constantValue := 0 }, { name := "serialPersistentFields", type := (.array (.object "java/io/ObjectStreamField")), accessFlags := 26, slot := 2, constantValue := 0 }, { name := "REPL", type := .char, accessFlags := 26, slot := 3, constantValue := 0 }, { name := "CASE_INSENSITIVE_ORDER", type := (.object "java/util/Comparator"), accessFlags := 25, slot := 4, constantValue := 0 }, { name := "LATIN1", type := .byte, accessFlags := 24, slot := 5, constantValue := 0 }, { name := "UTF16", type := .byte, accessFlags := 24, slot := 6, constantValue := 0 }]
  methods := #[k9m0]
  instanceTypes := #[(.array .byte), .byte, .int, .boolean]
  staticTypes := #[.long, .boolean, (.array (.object "java/io/ObjectStreamField")), .char, (.object "java/util/Comparator"), .byte, .byte]
  resolved := Array.replicate 1451 none
  statics := none }

def pool10 : Array CpInfo := pool [(1, u "java/lang/Cloneable"), (0, .class_ 1), (0, u "java/lang/Object"), (0, .class_ 3)] 3

/-- java/lang/Cloneable -/
def k10 : Class := { plain "java/lang/Cloneable" (some 0) with
  accessFlags := 1537
  interfaces := #[]
  cf := some (fileOf pool10 2 #[] #[] 1537 4 #[] #[])
  fields := #[]
  methods := #[]
  instanceTypes := #[]
  staticTypes := #[]
  resolved := Array.replicate 8 none
  statics := none }

/-- the primitive byte -/
def k11 : Class := { plain "byte" none with kind := .primitive 'B', accessFlags := 0x411 }
/-- [B -/
def k12 : Class := { plain "[B" (some 0) with kind := .array 11 .byte, interfaces := #[10, 4], accessFlags := 1041 }

def heap : Heap := #[{ cls := 6, slots := #[.ref 1, .ref 11, .ref 7, .ref 2, .ref 16, .ref 4, .ref 14, .ref 6, .ref 10, .ref 17, .ref 9, .ref 8, .ref 18, .ref 19, .ref 12, .ref 3, .ref 15, .ref 5, .ref 13, .null, .null, .null], vm := .statics 6 },
  { cls := 6, slots := #[.null, .int 0, .int 0, .int 0, .null, .null, .null, .null, .null], vm := .none },
  { cls := 6, slots := #[.null, .int 0, .int 0, .int 8, .null, .null, .null, .null, .null], vm := .none },
  { cls := 6, slots := #[.null, .int 0, .int 0, .int 76, .null, .null, .ref 20, .null, .null], vm := .none },
  { cls := 6, slots := #[.null, .int 0, .int 0, .int 10, .null, .null, .null, .null, .null], vm := .none },
  { cls := 6, slots := #[.null, .int 0, .int 0, .int 126, .null, .null, .ref 20, .null, .null], vm := .none },
  { cls := 6, slots := #[.null, .int 0, .int 0, .int 32, .null, .null, .null, .null, .null], vm := .none },
  { cls := 6, slots := #[.null, .int 0, .int 0, .int 2, .null, .null, .null, .null, .null], vm := .none },
  { cls := 6, slots := #[.null, .int 0, .int 0, .int 67, .null, .null, .ref 21, .null, .null], vm := .none },
  { cls := 6, slots := #[.null, .int 0, .int 0, .int 40, .null, .null, .null, .null, .null], vm := .none },
  { cls := 6, slots := #[.null, .int 0, .int 0, .int 33, .null, .null, .null, .null, .null], vm := .none },
  { cls := 6, slots := #[.null, .int 0, .int 0, .int 1, .null, .null, .null, .null, .null], vm := .none },
  { cls := 6, slots := #[.null, .int 0, .int 0, .int 71, .null, .null, .ref 22, .null, .null], vm := .none },
  { cls := 6, slots := #[.null, .int 0, .int 0, .int 127, .null, .null, .ref 20, .null, .null], vm := .none },
  { cls := 6, slots := #[.null, .int 0, .int 0, .int 11, .null, .null, .null, .null, .null], vm := .none },
  { cls := 6, slots := #[.null, .int 0, .int 0, .int 77, .null, .null, .ref 23, .null, .null], vm := .none },
  { cls := 6, slots := #[.null, .int 0, .int 0, .int 9, .null, .null, .null, .null, .null], vm := .none },
  { cls := 6, slots := #[.null, .int 0, .int 0, .int 36, .null, .null, .null, .null, .null], vm := .none },
  { cls := 6, slots := #[.null, .int 0, .int 0, .int 69, .null, .null, .ref 20, .null, .null], vm := .none },
  { cls := 6, slots := #[.null, .int 0, .int 0, .int 70, .null, .null, .ref 22, .null, .null], vm := .none },
  { cls := 9, slots := #[.null, .int 0, .int 0, .int 0], vm := .none },
  { cls := 9, slots := #[.null, .int 0, .int 0, .int 0], vm := .none },
  { cls := 9, slots := #[.null, .int 0, .int 0, .int 0], vm := .none },
  { cls := 9, slots := #[.null, .int 0, .int 0, .int 0], vm := .none }]
def classes : Array Class := #[k0, k1, k2, k3, k4, k5, k6, k7, k8, k9, k10, k11, k12]
def interned : List (Array UInt16 × Addr) := []
def slotsUsed : Nat := 209
def theMethod : MethodId := ⟨1, 2⟩
def args0 : Array Value := #[.int 5]
def aboutOver (below : List Frame) : State where
  vm := { classes := classes, interned := interned.toArray }
  heap := heap
  slotsUsed := slotsUsed
  threads := #[{ frames := .invoking theMethod args0 :: below }]
def below0 : List Frame := [.native { method := ⟨0, 0⟩, args := #[] }]
def about1 : State := aboutOver below0
def p0 : Program := .bare "" "" ""
def e0 : Env := launch0.env 0 0 0
theorem w_frames : about1.frames = Frame.invoking theMethod args0 :: below0 := rfl
set_option maxRecDepth 65536 in
theorem w_args : argsFit about1.vm theMethod args0 = true := by decide +kernel
set_option maxRecDepth 65536 in
theorem w_heap : heapFits about1 = true := by decide +kernel
set_option maxRecDepth 65536 in
theorem w_runnable : about1.curStatus? = some .runnable := by decide +kernel
set_option maxRecDepth 65536 in
theorem w_alone : about1.alone = true := by decide +kernel
set_option maxRecDepth 65536 in
theorem w_named : about1.methodNamed? x = some theMethod := by decide +kernel
set_option maxRecDepth 65536 in
theorem w_hears : about1.hears theMethod below0 = true := by decide +kernel
set_option maxRecDepth 65536 in
theorem w_ripe : about1.ripe theMethod args0 below0 = true := by decide +kernel
theorem w_running : about1.status = .running := rfl
set_option maxRecDepth 65536 in
theorem w_room : about1.hasRoom e0.platform room_1 = true :=
  launch0.hasRoom_least _ room_1 (by decide +kernel) (by decide +kernel) (by decide +kernel) (by decide +kernel) (by decide +kernel) (by decide +kernel)
theorem allAtoms_all (ts : List Jvm.Cond) (a : Array Jvm.Value) (st : Jvm.State) : (allAtoms ts).before a st = ts.all (fun c => c.before a st) := by
  induction ts with
  | nil => rfl
  | cons c t ih =>
    show (Jvm.Cond.and c (allAtoms t)).before a st = _
    rw [Jvm.Cond.before_and, ih, List.all_cons]
def words1 : List Jvm.Cond := Jvm.Cond.code x code maxLocals ret :: tables_1
/-- a 'code' word, met by the world's own term for the bytes: nothing is compared byte by byte -/
theorem code_word {y : MethodName} {bytes : ByteArray} {mx : Nat} {rt : Option FieldType} {a : Array Value} {s : State} {m : MethodId} {meth : Method} {c : Code} (h1 : s.methodNamed? y = some m) (h2 : s.vm.method? m = some meth) (h3 : meth.code = some c) (h4 : c.code = bytes)
    (h5 : (c.maxLocals == mx && c.exceptionTable.isEmpty && decide (c.maxStack ≤ mostOperands) && decide (meth.sig.returnType = rt) && !meth.locks && decide (parseMethodDescriptor y.desc = some meth.sig)) = true) : (Jvm.Cond.code y bytes mx rt).before a s = true := by
  simp only [Bool.and_eq_true, beq_iff_eq, Bool.not_eq_true', decide_eq_true_eq] at h5
  obtain ⟨⟨⟨⟨⟨g1, g2⟩, g3⟩, g4⟩, g5⟩, g6⟩ := h5
  simp [Cond.before, Cond.holds, Cond.value, h1, h2, h3, h4, g1, g2, g3, g4, g5, g6]
def isCode : Jvm.Cond → Bool
  | .code _ _ _ _ => true
  | _ => false
theorem all_split {L : List Jvm.Cond} {P : Jvm.Cond → Bool} (h1 : L.all (fun c => isCode c || P c) = true) (h2 : ∀ c ∈ L.filter isCode, P c = true) : L.all P = true := by
  refine List.all_eq_true.mpr fun c hc => ?_
  have h := List.all_eq_true.mp h1 c hc
  rcases Bool.eq_false_or_eq_true (isCode c) with hi | hi
  · exact h2 c (List.mem_filter.mpr ⟨hc, hi⟩)
  · simpa [hi] using h
set_option maxRecDepth 65536 in
theorem w_c0 : (Jvm.Cond.code x code maxLocals ret).before args0 about1 = true := code_word (m := ⟨1, 2⟩) (meth := k1m2) (c := k1c2) (by decide +kernel) rfl rfl rfl (by decide +kernel)
set_option maxRecDepth 65536 in
theorem w_c1 : (Jvm.Cond.code ({ cls := "com/example/plainwire/plainwire/rfc806/ElementQualifiedPinLaw", name := "pick", desc := "(I)Lcom/example/plainwire/plainwire/rfc806/Element;" } : Jvm.MethodName) method_2_code (1 : Nat) (Option.some (Jvm.ClassFile.FieldType.object "com/example/plainwire/plainwire/rfc806/Element"))).before args0 about1 = true := code_word (m := ⟨1, 1⟩) (meth := k1m1) (c := k1c1) (by decide +kernel) rfl rfl rfl (by decide +kernel)
set_option maxRecDepth 65536 in
theorem w_c2 : (Jvm.Cond.code ({ cls := "com/example/plainwire/plainwire/rfc806/Element", name := "qualified", desc := "()Z" } : Jvm.MethodName) prog_101_method_9_code (1 : Nat) (Option.some Jvm.ClassFile.FieldType.boolean)).before args0 about1 = true := code_word (m := ⟨6, 0⟩) (meth := k6m0) (c := k6c0) (by decide +kernel) rfl rfl rfl (by decide +kernel)
set_option maxRecDepth 65536 in
theorem w_c3 : (Jvm.Cond.code ({ cls := "com/example/plainwire/plainwire/rfc806/Element", name := "qualifierTag", desc := "()Ljava/lang/String;" } : Jvm.MethodName) prog_101_method_10_code (1 : Nat) (Option.some (Jvm.ClassFile.FieldType.object "java/lang/String"))).before args0 about1 = true := code_word (m := ⟨6, 1⟩) (meth := k6m1) (c := k6c1) (by decide +kernel) rfl rfl rfl (by decide +kernel)
def codes1 : List Jvm.Cond := [Jvm.Cond.code x code maxLocals ret, Jvm.Cond.code ({ cls := "com/example/plainwire/plainwire/rfc806/ElementQualifiedPinLaw", name := "pick", desc := "(I)Lcom/example/plainwire/plainwire/rfc806/Element;" } : Jvm.MethodName) method_2_code (1 : Nat) (Option.some (Jvm.ClassFile.FieldType.object "com/example/plainwire/plainwire/rfc806/Element")), Jvm.Cond.code ({ cls := "com/example/plainwire/plainwire/rfc806/Element", name := "qualified", desc := "()Z" } : Jvm.MethodName) prog_101_method_9_code (1 : Nat) (Option.some Jvm.ClassFile.FieldType.boolean), Jvm.Cond.code ({ cls := "com/example/plainwire/plainwire/rfc806/Element", name := "qualifierTag", desc := "()Ljava/lang/String;" } : Jvm.MethodName) prog_101_method_10_code (1 : Nat) (Option.some (Jvm.ClassFile.FieldType.object "java/lang/String"))]
set_option maxRecDepth 65536 in
theorem codes_eq : words1.filter isCode = codes1 := rfl
theorem w_codes : ∀ c ∈ words1.filter isCode, c.before args0 about1 = true := by
  rw [codes_eq]
  intro c hc
  simp only [codes1, List.mem_cons, List.not_mem_nil, or_false] at hc
  rcases hc with rfl | rfl | rfl | rfl
  · exact w_c0
  · exact w_c1
  · exact w_c2
  · exact w_c3
set_option maxRecDepth 65536 in
theorem w_t1 : (words1.take 24).all (fun c => isCode c || c.before args0 about1) = true := by decide +kernel
set_option maxRecDepth 65536 in
theorem w_t2 : ((words1.drop 24).take 24).all (fun c => isCode c || c.before args0 about1) = true := by decide +kernel
set_option maxRecDepth 65536 in
theorem w_t3 : ((words1.drop 24).drop 24).all (fun c => isCode c || c.before args0 about1) = true := by decide +kernel
theorem w_tables : (allAtoms (Jvm.Cond.code x code maxLocals ret :: tables_1)).before args0 about1 = true := by
  rw [allAtoms_all]
  show words1.all (fun c => c.before args0 about1) = true
  refine all_split ?_ w_codes
  rw [← List.take_append_drop 24 words1, List.all_append, w_t1, ← List.take_append_drop 24 (words1.drop 24), List.all_append, w_t2, w_t3]
  rfl
set_option maxRecDepth 65536 in
theorem w_case : (Jvm.Cond.and given_1 narrow_1).before args0 about1 = true := by decide +kernel
theorem w_applies : (headSpec (Jvm.Cond.code x code maxLocals ret :: tables_1) room_1).applies x e0.platform about1 = true :=
  (Spec.applies_iff w_frames).mpr ⟨w_running, w_runnable, w_alone, w_named, w_hears, w_ripe, w_room, w_tables⟩
theorem atStart : AtStart classFile x code maxLocals ret World_1 tables_1 room_1 Calls_1 rest_1 Pre_1 launch0 p0 e0 about1 theMethod args0 below0 :=
  ⟨lists_1, trivial, launch0.admits_env _ _ _, launch0.least_env, fairChoices_fair.cas, fairChoices_fair.clock, w_frames, w_args, w_heap, w_applies, trivial, trivial, w_case⟩
end start1
theorem witness_1 : WitnessClaimed_1 := ⟨start1.p0, start1.e0, start1.about1, start1.theMethod, start1.args0, start1.below0, start1.atStart⟩
end Jvm.Pilot.@@N@@
