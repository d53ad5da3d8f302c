import JvmDerived
import JvmDerived.Pilot.@@N@@Statement
import JvmDerived.Pilot.@@N@@Code
set_option linter.unusedVariables false
set_option linter.unusedSimpArgs false
@@BLOCK:NumsL.lean.txt@@
namespace Jvm.Pilot.@@N@@
open Jvm Jvm.ClassFile Sem Op Lib Jvm.Free Jvm.Stand Jvm.LawKit Jvm.RoadKit Bundle Jvm.Pilot.@@N@@.Jvm.D
/-- a term that the case says equals an int is worth that int -/
theorem own_eqI {args : Array Value} {s : State} {t : Term} {k : Int32} (h : (Jvm.Cond.eq t (.int k)).value args s none s [] = some true) : t.eval args s none [] s = some (.int k) := by
  obtain ⟨u, y, e1, e2, k1, k2⟩ := cmp_v (Or.inl h)
  obtain rfl : y = .int k := (Option.some.inj ((Term.int_eval k).symm.trans e2)).symm
  obtain ⟨z, rfl⟩ : ∃ z, u = .int z := k2
  have q : z = k := gotT (Cond.eq_ints e1 (Term.int_eval k)) h
  rw [e1, q]
/-- a term that the case says equals one that is worth an object is worth that object -/
theorem own_eqR {args : Array Value} {s : State} {t t' : Term} {b : Addr} (h : (Jvm.Cond.eq t t').value args s none s [] = some true) (hb : t'.eval args s none [] s = some (.ref b)) : t.eval args s none [] s = some (.ref b) := by
  obtain ⟨u, y, e1, e2, k1, k2⟩ := cmp_v (Or.inl h)
  obtain rfl : y = .ref b := (Option.some.inj (hb.symm.trans e2)).symm
  have q : u = .ref b := gotT (eq_R e1 hb k2.2 rfl) h
  rw [e1, q]
/-- two objects whose fields hold unlike values are unlike -/
theorem own_ne {s : State} {a b : Addr} {C n d : String} {v w : Value} (h1 : s.fieldOf? a C n d = some v) (h2 : s.fieldOf? b C n d = some w) (q : v ≠ w) : a ≠ b := fun e => by
  subst e; exact q (Option.some.inj (h1.symm.trans h2))
section Kit
variable {p : Program} {l : Launch} {e : Env} {R : Room} {s : State} {m : MethodId} {args : Array Value} {below : List Frame} {meth : Method} {c : Code} {T T' : State} {locs : List Loc} {cells slots : Nat} {Q : Outcome → State → Prop} {pc : Nat} {Ls : Array Slot} {st : List Value} {f f' : JFrame}
/-- from this frame the run ends as Q says -/
def EndsSo (p : Program) (e : Env) (below : List Frame) (Q : Outcome → State → Prop) (T : State) (f : JFrame) : Prop := ∃ s₂ o, Steps p.tables e below (T.setTop f) s₂ ∧ s₂.status = .running ∧ Ended s₂ below o ∧ Q o s₂
theorem f_by (k : ∀ t, Steps p.tables e below (T'.setTop f') t → Steps p.tables e below (T.setTop f) t) (h : EndsSo p e below Q T' f') : EndsSo p e below Q T f := by
  obtain ⟨s₂, o, h1, r⟩ := h; exact ⟨s₂, o, k _ h1, r⟩
theorem f_run (k : Steps p.tables e below (T.setTop f) (T'.setTop f')) (h : EndsSo p e below Q T' f') : EndsSo p e below Q T f := by
  obtain ⟨s₂, o, h1, r⟩ := h; exact ⟨s₂, o, k.trans h1, r⟩
theorem f_cast (q : f = f') (h : EndsSo p e below Q T f') : EndsSo p e below Q T f := q ▸ h
theorem f_ret (X : Stand p l e R s m args below meth c T locs cells slots) (hx : p.tables.exec = Jvm.exec) (hlk : meth.locks = false) {w : Value} {t : FieldType} {i : Instr} (hret : meth.sig.returnType = some t) (hn : narrow t w = w)
    (hi : (i = .ireturn ∧ (t = .int ∨ t = .boolean ∨ t = .byte ∨ t = .char ∨ t = .short) ∧ ∃ z, w = .int z) ∨ (i = .lreturn ∧ t = .long ∧ ∃ z, w = .long z) ∨ (i = .dreturn ∧ t = .double ∧ ∃ z, w = .double z) ∨ (i = .freturn ∧ t = .float ∧ ∃ z, w = .float z) ∨ (i = .areturn ∧ t.isReference = true ∧ w.isRef = true))
    (hd : decode c.code pc = .ok (i, 1)) {QQ : Option Value → Heap → List Loc → Prop} {k n : Nat} (hq : QQ (some w) T.heap locs) (hk : cells ≤ k) (hn' : slots ≤ n) :
    EndsSo p e below (fun o U' => ∃ v L, o = .returned v ∧ QQ v U'.heap L ∧ FrameEnd s o U' L k n) T (mkF m pc Ls (w :: st)) := by
  obtain ⟨fs, hr, hrun, hended, hW, hsame⟩ := X.leave (v := some w) (fun h => by rw [hret] at h; cases h)
  exact ⟨_, _, retOut X hx hret hn hi hd hr, hrun, hended, _, _, rfl, hq, ⟨_, rfl⟩, hW, hsame.mono hk hn'⟩
theorem f_ret0 (X : Stand p l e R s m args below meth c T locs cells slots) (hx : p.tables.exec = Jvm.exec) (hlk : meth.locks = false) (hret : meth.sig.returnType = none)
    (hd : decode c.code pc = .ok (.return_, 1)) {QQ : Option Value → Heap → List Loc → Prop} {k n : Nat} (hq : QQ none T.heap locs) (hk : cells ≤ k) (hn' : slots ≤ n) :
    EndsSo p e below (fun o U' => ∃ v L, o = .returned v ∧ QQ v U'.heap L ∧ FrameEnd s o U' L k n) T (mkF m pc Ls []) := by
  obtain ⟨fs, hr, hrun, hended, hW, hsame⟩ := X.leave (v := none) (fun _ => rfl)
  exact ⟨_, _, X.returnOut hx hret hd hr, hrun, hended, _, _, rfl, hq, ⟨_, rfl⟩, hW, hsame.mono hk hn'⟩

theorem iL (X : Stand p l e R s m args below meth c T locs cells slots) (hx : p.tables.exec = Jvm.exec) {i : Nat} {v : Int32} (hd : decode c.code pc = .ok (.iload i, 2)) (hl : Ls[i]? = some (.val (.int v))) (h : EndsSo p e below Q T (mkF m (pc + 2) Ls (.int v :: st))) : EndsSo p e below Q T (mkF m pc Ls st) := f_by (fun _ k => XS.iload X.here hx rfl hd hl k) h
theorem iN (X : Stand p l e R s m args below meth c T locs cells slots) (hx : p.tables.exec = Jvm.exec) {i : Fin 4} {v : Int32} (hd : decode c.code pc = .ok (.iload_n i, 1)) (hl : Ls[i.val]? = some (.val (.int v))) (h : EndsSo p e below Q T (mkF m (pc + 1) Ls (.int v :: st))) : EndsSo p e below Q T (mkF m pc Ls st) := f_by (fun _ k => XS.iloadN X.here hx rfl hd hl k) h
theorem f_lload (X : Stand p l e R s m args below meth c T locs cells slots) (hx : p.tables.exec = Jvm.exec) {i : Nat} {v : Int64} (hd : decode c.code pc = .ok (.lload i, 2)) (hl : Ls[i]? = some (.val (.long v))) (h : EndsSo p e below Q T (mkF m (pc + 2) Ls (.long v :: st))) : EndsSo p e below Q T (mkF m pc Ls st) := f_by (fun _ k => XS.lload X.here hx rfl hd hl k) h
theorem lN (X : Stand p l e R s m args below meth c T locs cells slots) (hx : p.tables.exec = Jvm.exec) {i : Fin 4} {v : Int64} (hd : decode c.code pc = .ok (.lload_n i, 1)) (hl : Ls[i.val]? = some (.val (.long v))) (h : EndsSo p e below Q T (mkF m (pc + 1) Ls (.long v :: st))) : EndsSo p e below Q T (mkF m pc Ls st) := f_by (fun _ k => XS.lloadN X.here hx rfl hd hl k) h
theorem aA (X : Stand p l e R s m args below meth c T locs cells slots) (hx : p.tables.exec = Jvm.exec) {i : Nat} {v : Value} (hd : decode c.code pc = .ok (.aload i, 2)) (hl : Ls[i]? = some (.val v)) (hv : v.isRef = true) (h : EndsSo p e below Q T (mkF m (pc + 2) Ls (v :: st))) : EndsSo p e below Q T (mkF m pc Ls st) := f_by (fun _ k => XS.aload X.here hx rfl hd hl hv k) h
theorem aN (X : Stand p l e R s m args below meth c T locs cells slots) (hx : p.tables.exec = Jvm.exec) {i : Fin 4} {v : Value} (hd : decode c.code pc = .ok (.aload_n i, 1)) (hl : Ls[i.val]? = some (.val v)) (hv : v.isRef = true) (h : EndsSo p e below Q T (mkF m (pc + 1) Ls (v :: st))) : EndsSo p e below Q T (mkF m pc Ls st) := f_by (fun _ k => XS.aloadN X.here hx rfl hd hl hv k) h
theorem iS (X : Stand p l e R s m args below meth c T locs cells slots) (hx : p.tables.exec = Jvm.exec) {i : Nat} {v : Int32} {L' : Array Slot} (hd : decode c.code pc = .ok (.istore i, 2)) (hl : storeLocals Ls i (.int v) = some L') (h : EndsSo p e below Q T (mkF m (pc + 2) L' st)) : EndsSo p e below Q T (mkF m pc Ls (.int v :: st)) := f_by (fun _ k => XS.istore X.here hx rfl hd rfl hl k) h
theorem sN (X : Stand p l e R s m args below meth c T locs cells slots) (hx : p.tables.exec = Jvm.exec) {i : Fin 4} {v : Int32} {L' : Array Slot} (hd : decode c.code pc = .ok (.istore_n i, 1)) (hl : storeLocals Ls i.val (.int v) = some L') (h : EndsSo p e below Q T (mkF m (pc + 1) L' st)) : EndsSo p e below Q T (mkF m pc Ls (.int v :: st)) := f_by (fun _ k => XS.istoreN X.here hx rfl hd rfl hl k) h
theorem f_lstore (X : Stand p l e R s m args below meth c T locs cells slots) (hx : p.tables.exec = Jvm.exec) {i : Nat} {v : Int64} {L' : Array Slot} (hd : decode c.code pc = .ok (.lstore i, 2)) (hl : storeLocals Ls i (.long v) = some L') (h : EndsSo p e below Q T (mkF m (pc + 2) L' st)) : EndsSo p e below Q T (mkF m pc Ls (.long v :: st)) := f_by (fun _ k => XS.lstore X.here hx rfl hd rfl hl k) h
theorem f_lstoreN (X : Stand p l e R s m args below meth c T locs cells slots) (hx : p.tables.exec = Jvm.exec) {i : Fin 4} {v : Int64} {L' : Array Slot} (hd : decode c.code pc = .ok (.lstore_n i, 1)) (hl : storeLocals Ls i.val (.long v) = some L') (h : EndsSo p e below Q T (mkF m (pc + 1) L' st)) : EndsSo p e below Q T (mkF m pc Ls (.long v :: st)) := f_by (fun _ k => XS.lstoreN X.here hx rfl hd rfl hl k) h
theorem f_astore (X : Stand p l e R s m args below meth c T locs cells slots) (hx : p.tables.exec = Jvm.exec) {i : Nat} {v : Value} {L' : Array Slot} (hd : decode c.code pc = .ok (.astore i, 2)) (hv : v.isRef = true) (hl : storeLocals Ls i v = some L') (h : EndsSo p e below Q T (mkF m (pc + 2) L' st)) : EndsSo p e below Q T (mkF m pc Ls (v :: st)) := f_by (fun _ k => XS.astore X.here hx rfl hd rfl hv hl k) h
theorem f_astoreN (X : Stand p l e R s m args below meth c T locs cells slots) (hx : p.tables.exec = Jvm.exec) {i : Fin 4} {v : Value} {L' : Array Slot} (hd : decode c.code pc = .ok (.astore_n i, 1)) (hv : v.isRef = true) (hl : storeLocals Ls i.val v = some L') (h : EndsSo p e below Q T (mkF m (pc + 1) L' st)) : EndsSo p e below Q T (mkF m pc Ls (v :: st)) := f_by (fun _ k => XS.astoreN X.here hx rfl hd rfl hv hl k) h
theorem iK (X : Stand p l e R s m args below meth c T locs cells slots) (hx : p.tables.exec = Jvm.exec) {i : Int} {z : Int32} (hd : decode c.code pc = .ok (.iconst i, 1)) (h : EndsSo p e below Q T (mkF m (pc + 1) Ls (.int z :: st))) (q : Int32.ofInt i = z := by rfl) : EndsSo p e below Q T (mkF m pc Ls st) := f_by (fun _ k => XS.iconst X.here hx rfl hd (by rw [q]; exact k)) h
theorem f_bipush (X : Stand p l e R s m args below meth c T locs cells slots) (hx : p.tables.exec = Jvm.exec) {i : Int} {z : Int32} (hd : decode c.code pc = .ok (.bipush i, 2)) (h : EndsSo p e below Q T (mkF m (pc + 2) Ls (.int z :: st))) (q : (Int8.ofInt i).toInt32 = z := by rfl) : EndsSo p e below Q T (mkF m pc Ls st) := f_by (fun _ k => XS.bipush X.here hx rfl hd (by rw [q]; exact k)) h
theorem f_sipush (X : Stand p l e R s m args below meth c T locs cells slots) (hx : p.tables.exec = Jvm.exec) {i : Int} {z : Int32} (hd : decode c.code pc = .ok (.sipush i, 3)) (h : EndsSo p e below Q T (mkF m (pc + 3) Ls (.int z :: st))) (q : (Int16.ofInt i).toInt32 = z := by rfl) : EndsSo p e below Q T (mkF m pc Ls st) := f_by (fun _ k => XS.sipush X.here hx rfl hd (by rw [q]; exact k)) h
theorem f_null (X : Stand p l e R s m args below meth c T locs cells slots) (hx : p.tables.exec = Jvm.exec)  (hd : decode c.code pc = .ok (.aconst_null, 1)) (h : EndsSo p e below Q T (mkF m (pc + 1) Ls (.null :: st))) : EndsSo p e below Q T (mkF m pc Ls st) := f_by (fun _ k => XS.aconstNull X.here hx rfl hd k) h
theorem iA (X : Stand p l e R s m args below meth c T locs cells slots) (hx : p.tables.exec = Jvm.exec) {x y z : Int32} (hd : decode c.code pc = .ok (.iadd, 1)) (h : EndsSo p e below Q T (mkF m (pc + 1) Ls (.int z :: st))) (q : x + y = z := by decide +kernel) : EndsSo p e below Q T (mkF m pc Ls (.int y :: .int x :: st)) := f_by (fun _ k => XS.iadd X.here hx rfl hd rfl (by rw [q]; exact k)) h
theorem iB (X : Stand p l e R s m args below meth c T locs cells slots) (hx : p.tables.exec = Jvm.exec) {x y z : Int32} (hd : decode c.code pc = .ok (.isub, 1)) (h : EndsSo p e below Q T (mkF m (pc + 1) Ls (.int z :: st))) (q : x - y = z := by decide +kernel) : EndsSo p e below Q T (mkF m pc Ls (.int y :: .int x :: st)) := f_by (fun _ k => XS.isub X.here hx rfl hd rfl (by rw [q]; exact k)) h
theorem f_imul (X : Stand p l e R s m args below meth c T locs cells slots) (hx : p.tables.exec = Jvm.exec) {x y z : Int32} (hd : decode c.code pc = .ok (.imul, 1)) (h : EndsSo p e below Q T (mkF m (pc + 1) Ls (.int z :: st))) (q : x * y = z := by decide +kernel) : EndsSo p e below Q T (mkF m pc Ls (.int y :: .int x :: st)) := f_by (fun _ k => XS.imul X.here hx rfl hd rfl (by rw [q]; exact k)) h
theorem f_iand (X : Stand p l e R s m args below meth c T locs cells slots) (hx : p.tables.exec = Jvm.exec) {x y z : Int32} (hd : decode c.code pc = .ok (.iand, 1)) (h : EndsSo p e below Q T (mkF m (pc + 1) Ls (.int z :: st))) (q : x &&& y = z := by decide +kernel) : EndsSo p e below Q T (mkF m pc Ls (.int y :: .int x :: st)) := f_by (fun _ k => XS.iand X.here hx rfl hd rfl (by rw [q]; exact k)) h
theorem f_ior (X : Stand p l e R s m args below meth c T locs cells slots) (hx : p.tables.exec = Jvm.exec) {x y z : Int32} (hd : decode c.code pc = .ok (.ior, 1)) (h : EndsSo p e below Q T (mkF m (pc + 1) Ls (.int z :: st))) (q : x ||| y = z := by decide +kernel) : EndsSo p e below Q T (mkF m pc Ls (.int y :: .int x :: st)) := f_by (fun _ k => XS.ior X.here hx rfl hd rfl (by rw [q]; exact k)) h
theorem f_ixor (X : Stand p l e R s m args below meth c T locs cells slots) (hx : p.tables.exec = Jvm.exec) {x y z : Int32} (hd : decode c.code pc = .ok (.ixor, 1)) (h : EndsSo p e below Q T (mkF m (pc + 1) Ls (.int z :: st))) (q : x ^^^ y = z := by decide +kernel) : EndsSo p e below Q T (mkF m pc Ls (.int y :: .int x :: st)) := f_by (fun _ k => XS.ixor X.here hx rfl hd rfl (by rw [q]; exact k)) h
theorem f_ladd (X : Stand p l e R s m args below meth c T locs cells slots) (hx : p.tables.exec = Jvm.exec) {x y z : Int64} (hd : decode c.code pc = .ok (.ladd, 1)) (h : EndsSo p e below Q T (mkF m (pc + 1) Ls (.long z :: st))) (q : x + y = z := by decide +kernel) : EndsSo p e below Q T (mkF m pc Ls (.long y :: .long x :: st)) := f_by (fun _ k => XS.ladd X.here hx rfl hd rfl (by rw [q]; exact k)) h
theorem f_lsub (X : Stand p l e R s m args below meth c T locs cells slots) (hx : p.tables.exec = Jvm.exec) {x y z : Int64} (hd : decode c.code pc = .ok (.lsub, 1)) (h : EndsSo p e below Q T (mkF m (pc + 1) Ls (.long z :: st))) (q : x - y = z := by decide +kernel) : EndsSo p e below Q T (mkF m pc Ls (.long y :: .long x :: st)) := f_by (fun _ k => XS.lsub X.here hx rfl hd rfl (by rw [q]; exact k)) h
theorem f_lmul (X : Stand p l e R s m args below meth c T locs cells slots) (hx : p.tables.exec = Jvm.exec) {x y z : Int64} (hd : decode c.code pc = .ok (.lmul, 1)) (h : EndsSo p e below Q T (mkF m (pc + 1) Ls (.long z :: st))) (q : x * y = z := by decide +kernel) : EndsSo p e below Q T (mkF m pc Ls (.long y :: .long x :: st)) := f_by (fun _ k => XS.lmul X.here hx rfl hd rfl (by rw [q]; exact k)) h
theorem f_ishl (X : Stand p l e R s m args below meth c T locs cells slots) (hx : p.tables.exec = Jvm.exec) {x y z : Int32} (hd : decode c.code pc = .ok (.ishl, 1)) (h : EndsSo p e below Q T (mkF m (pc + 1) Ls (.int z :: st))) (q : x <<< (y &&& 31) = z := by decide +kernel) : EndsSo p e below Q T (mkF m pc Ls (.int y :: .int x :: st)) := f_by (fun _ k => XS.ishl X.here hx rfl hd rfl (by rw [q]; exact k)) h
theorem f_ishr (X : Stand p l e R s m args below meth c T locs cells slots) (hx : p.tables.exec = Jvm.exec) {x y z : Int32} (hd : decode c.code pc = .ok (.ishr, 1)) (h : EndsSo p e below Q T (mkF m (pc + 1) Ls (.int z :: st))) (q : x >>> (y &&& 31) = z := by decide +kernel) : EndsSo p e below Q T (mkF m pc Ls (.int y :: .int x :: st)) := f_by (fun _ k => XS.ishr X.here hx rfl hd rfl (by rw [q]; exact k)) h
theorem f_iushr (X : Stand p l e R s m args below meth c T locs cells slots) (hx : p.tables.exec = Jvm.exec) {x y z : Int32} (hd : decode c.code pc = .ok (.iushr, 1)) (h : EndsSo p e below Q T (mkF m (pc + 1) Ls (.int z :: st))) (q : (x.toUInt32 >>> (y &&& 31).toUInt32).toInt32 = z := by decide +kernel) : EndsSo p e below Q T (mkF m pc Ls (.int y :: .int x :: st)) := f_by (fun _ k => XS.iushr X.here hx rfl hd rfl (by rw [q]; exact k)) h
theorem f_idiv (X : Stand p l e R s m args below meth c T locs cells slots) (hx : p.tables.exec = Jvm.exec) {x y z : Int32} (hd : decode c.code pc = .ok (.idiv, 1)) (hy : y ≠ 0) (h : EndsSo p e below Q T (mkF m (pc + 1) Ls (.int z :: st))) (q : x / y = z := by decide +kernel) : EndsSo p e below Q T (mkF m pc Ls (.int y :: .int x :: st)) := f_by (fun _ k => XS.idiv X.here hx rfl hd rfl hy (by rw [q]; exact k)) h
theorem f_irem (X : Stand p l e R s m args below meth c T locs cells slots) (hx : p.tables.exec = Jvm.exec) {x y z : Int32} (hd : decode c.code pc = .ok (.irem, 1)) (hy : y ≠ 0) (h : EndsSo p e below Q T (mkF m (pc + 1) Ls (.int z :: st))) (q : x % y = z := by decide +kernel) : EndsSo p e below Q T (mkF m pc Ls (.int y :: .int x :: st)) := f_by (fun _ k => iremM X hx rfl hd rfl hy (by rw [q]; exact k)) h
theorem f_i2l (X : Stand p l e R s m args below meth c T locs cells slots) (hx : p.tables.exec = Jvm.exec) {x : Int32} {z : Int64} (hd : decode c.code pc = .ok (.i2l, 1)) (h : EndsSo p e below Q T (mkF m (pc + 1) Ls (.long z :: st))) (q : x.toInt64 = z := by decide +kernel) : EndsSo p e below Q T (mkF m pc Ls (.int x :: st)) := f_by (fun _ k => XS.i2l X.here hx rfl hd rfl (by rw [q]; exact k)) h
theorem lC (X : Stand p l e R s m args below meth c T locs cells slots) (hx : p.tables.exec = Jvm.exec) {x y : Int64} {z : Int32} (hd : decode c.code pc = .ok (.lcmp, 1)) (h : EndsSo p e below Q T (mkF m (pc + 1) Ls (.int z :: st))) (q : lcmpW x y = z := by decide +kernel) : EndsSo p e below Q T (mkF m pc Ls (.long y :: .long x :: st)) := f_by (fun _ k => XS.lcmp X.here hx rfl hd rfl (by rw [← q] at k; exact k)) h
theorem f_dup (X : Stand p l e R s m args below meth c T locs cells slots) (hx : p.tables.exec = Jvm.exec) {v : Value} (hd : decode c.code pc = .ok (.dup, 1)) (hc : v.category = 1) (h : EndsSo p e below Q T (mkF m (pc + 1) Ls (v :: v :: st))) : EndsSo p e below Q T (mkF m pc Ls (v :: st)) := f_by (fun _ k => XS.dup X.here hx rfl hd rfl hc k) h
theorem f_pop (X : Stand p l e R s m args below meth c T locs cells slots) (hx : p.tables.exec = Jvm.exec) {v : Value} (hd : decode c.code pc = .ok (.pop, 1)) (hc : v.category = 1) (h : EndsSo p e below Q T (mkF m (pc + 1) Ls st)) : EndsSo p e below Q T (mkF m pc Ls (v :: st)) := f_by (fun _ k => XS.pop X.here hx rfl hd rfl hc k) h
theorem f_dupX1 (X : Stand p l e R s m args below meth c T locs cells slots) (hx : p.tables.exec = Jvm.exec) {v w : Value} (hd : decode c.code pc = .ok (.dup_x1, 1)) (hc : v.category = 1) (hw : w.category = 1) (h : EndsSo p e below Q T (mkF m (pc + 1) Ls (v :: w :: v :: st))) : EndsSo p e below Q T (mkF m pc Ls (v :: w :: st)) := f_by (fun _ k => XS.dupX1 X.here hx rfl hd rfl hc hw k) h
theorem f_dup2 (X : Stand p l e R s m args below meth c T locs cells slots) (hx : p.tables.exec = Jvm.exec) {v w : Value} (hd : decode c.code pc = .ok (.dup2, 1)) (hc : v.category = 1) (hw : w.category = 1) (h : EndsSo p e below Q T (mkF m (pc + 1) Ls (v :: w :: v :: w :: st))) : EndsSo p e below Q T (mkF m pc Ls (v :: w :: st)) := f_by (fun _ k => XT.dup2 X.here hx rfl hd rfl hc hw k) h
theorem f_iinc (X : Stand p l e R s m args below meth c T locs cells slots) (hx : p.tables.exec = Jvm.exec) {i : Nat} {d : Int} {x : Int32} {L' : Array Slot} (hd : decode c.code pc = .ok (.iinc i d, 3)) (hl : Ls[i]? = some (.val (.int x))) (hl' : storeLocals Ls i (.int (x + Int32.ofInt d)) = some L') (h : EndsSo p e below Q T (mkF m (pc + 3) L' st)) : EndsSo p e below Q T (mkF m pc Ls st) := f_by (fun _ k => XS.iinc X.here hx rfl hd hl hl' k) h
theorem gT (X : Stand p l e R s m args below meth c T locs cells slots) (hx : p.tables.exec = Jvm.exec) {o : Int} (pc' : Nat) (hd : decode c.code pc = .ok (.goto o, 3)) (h : EndsSo p e below Q T (mkF m pc' Ls st)) (ho : 0 ≤ (pc : Int) + o := by decide) (hp : ((pc : Int) + o).toNat = pc' := by decide) : EndsSo p e below Q T (mkF m pc Ls st) := f_by (fun _ k => XS.goto X.here hx rfl rfl hd ho hp k) h
theorem fY (X : Stand p l e R s m args below meth c T locs cells slots) (hx : p.tables.exec = Jvm.exec) {cd : ClassFile.Cond} {x : Int32} {o : Int} (pc' : Nat) (hd : decode c.code pc = .ok (.ifCond cd o, 3)) (h : EndsSo p e below Q T (mkF m pc' Ls st)) (hc : ifCond.holds cd x = true := by decide +kernel) (ho : 0 ≤ (pc : Int) + o := by decide) (hp : ((pc : Int) + o).toNat = pc' := by decide) : EndsSo p e below Q T (mkF m pc Ls (.int x :: st)) := f_by (fun _ k => XS.ifYes X.here hx rfl rfl hd rfl hc ho hp k) h
theorem fN (X : Stand p l e R s m args below meth c T locs cells slots) (hx : p.tables.exec = Jvm.exec) {cd : ClassFile.Cond} {x : Int32} {o : Int} (hd : decode c.code pc = .ok (.ifCond cd o, 3)) (h : EndsSo p e below Q T (mkF m (pc + 3) Ls st)) (hc : ifCond.holds cd x = false := by decide +kernel) : EndsSo p e below Q T (mkF m pc Ls (.int x :: st)) := f_by (fun _ k => XS.ifNo X.here hx rfl hd rfl hc k) h
theorem cY (X : Stand p l e R s m args below meth c T locs cells slots) (hx : p.tables.exec = Jvm.exec) {cd : ClassFile.Cond} {x y : Int32} {o : Int} (pc' : Nat) (hd : decode c.code pc = .ok (.if_icmp cd o, 3)) (h : EndsSo p e below Q T (mkF m pc' Ls st)) (hc : if_icmp.holds cd x y = true := by decide +kernel) (ho : 0 ≤ (pc : Int) + o := by decide) (hp : ((pc : Int) + o).toNat = pc' := by decide) : EndsSo p e below Q T (mkF m pc Ls (.int y :: .int x :: st)) := f_by (fun _ k => XS.icmpYes X.here hx rfl rfl hd rfl hc ho hp k) h
theorem cN (X : Stand p l e R s m args below meth c T locs cells slots) (hx : p.tables.exec = Jvm.exec) {cd : ClassFile.Cond} {x y : Int32} {o : Int} (hd : decode c.code pc = .ok (.if_icmp cd o, 3)) (h : EndsSo p e below Q T (mkF m (pc + 3) Ls st)) (hc : if_icmp.holds cd x y = false := by decide +kernel) : EndsSo p e below Q T (mkF m pc Ls (.int y :: .int x :: st)) := f_by (fun _ k => XS.icmpNo X.here hx rfl hd rfl hc k) h
theorem f_ifnullY (X : Stand p l e R s m args below meth c T locs cells slots) (hx : p.tables.exec = Jvm.exec) {o : Int} (pc' : Nat) (hd : decode c.code pc = .ok (.ifnull o, 3)) (h : EndsSo p e below Q T (mkF m pc' Ls st)) (ho : 0 ≤ (pc : Int) + o := by decide) (hp : ((pc : Int) + o).toNat = pc' := by decide) : EndsSo p e below Q T (mkF m pc Ls (.null :: st)) := f_by (fun _ k => XS.ifnullYes X.here hx rfl rfl hd rfl ho hp k) h
theorem f_ifnullN (X : Stand p l e R s m args below meth c T locs cells slots) (hx : p.tables.exec = Jvm.exec) {b : Addr} {o : Int} (hd : decode c.code pc = .ok (.ifnull o, 3)) (h : EndsSo p e below Q T (mkF m (pc + 3) Ls st)) : EndsSo p e below Q T (mkF m pc Ls ((.ref b) :: st)) := f_by (fun _ k => XS.ifnullNo X.here hx rfl hd rfl k) h
theorem f_ifnonnullY (X : Stand p l e R s m args below meth c T locs cells slots) (hx : p.tables.exec = Jvm.exec) {b : Addr} {o : Int} (pc' : Nat) (hd : decode c.code pc = .ok (.ifnonnull o, 3)) (h : EndsSo p e below Q T (mkF m pc' Ls st)) (ho : 0 ≤ (pc : Int) + o := by decide) (hp : ((pc : Int) + o).toNat = pc' := by decide) : EndsSo p e below Q T (mkF m pc Ls ((.ref b) :: st)) := f_by (fun _ k => XS.ifnonnullYes X.here hx rfl rfl hd rfl ho hp k) h
theorem f_ifnonnullN (X : Stand p l e R s m args below meth c T locs cells slots) (hx : p.tables.exec = Jvm.exec) {o : Int} (hd : decode c.code pc = .ok (.ifnonnull o, 3)) (h : EndsSo p e below Q T (mkF m (pc + 3) Ls st)) : EndsSo p e below Q T (mkF m pc Ls (.null :: st)) := f_by (fun _ k => XS.ifnonnullNo X.here hx rfl hd rfl k) h
theorem f_ifnonnullYv (X : Stand p l e R s m args below meth c T locs cells slots) (hx : p.tables.exec = Jvm.exec) {v : Value} {b : Addr} {o : Int} (pc' : Nat) (hv : v = .ref b) (hd : decode c.code pc = .ok (.ifnonnull o, 3)) (h : EndsSo p e below Q T (mkF m pc' Ls st)) (ho : 0 ≤ (pc : Int) + o := by decide) (hp : ((pc : Int) + o).toNat = pc' := by decide) : EndsSo p e below Q T (mkF m pc Ls (v :: st)) := by subst hv; exact f_ifnonnullY X hx pc' hd h ho hp
theorem f_ifnonnullNv (X : Stand p l e R s m args below meth c T locs cells slots) (hx : p.tables.exec = Jvm.exec) {v : Value} {o : Int} (hv : v = .null) (hd : decode c.code pc = .ok (.ifnonnull o, 3)) (h : EndsSo p e below Q T (mkF m (pc + 3) Ls st)) : EndsSo p e below Q T (mkF m pc Ls (v :: st)) := by subst hv; exact f_ifnonnullN X hx hd h
theorem f_acmp (X : Stand p l e R s m args below meth c T locs cells slots) (hx : p.tables.exec = Jvm.exec) {cd : ACond} {x y : Value} {o : Int} (pc' : Nat) (same : Bool) (h1 : x.isRef = true) (h2 : y.isRef = true) (hd : decode c.code pc = .ok (.if_acmp cd o, 3)) (hq : decide (x = y) = same) (h : EndsSo p e below Q T (mkF m pc' Ls st)) (ho : 0 ≤ (pc : Int) + o := by decide) (hp : pc' = if acV cd same = true then ((pc : Int) + o).toNat else pc + 3 := by decide) : EndsSo p e below Q T (mkF m pc Ls (y :: x :: st)) := f_by (fun _ k => acmp (g := mkF m pc Ls (y :: x :: st)) X hx rfl h1 h2 rfl hd rfl hq ho hp k) h
theorem f_tsw (X : Stand p l e R s m args below meth c T locs cells slots) (hx : p.tables.exec = Jvm.exec) {d lo hi : Int} {offs : Array Int} {len : Nat} {o : Int} {i : Int32} (pc' : Nat) (hd : decode c.code pc = .ok (.tableswitch d lo hi offs, len)) (hin : ¬ (i.toInt < lo ∨ i.toInt > hi)) (hoff : offs[(i.toInt - lo).toNat]? = some o) (h : EndsSo p e below Q T (mkF m pc' Ls st)) (ho : 0 ≤ (pc : Int) + o := by decide) (hp : ((pc : Int) + o).toNat = pc' := by decide) : EndsSo p e below Q T (mkF m pc Ls (.int i :: st)) := f_by (fun _ k => XS.tswIn X.here hx rfl rfl hd rfl hin hoff ho hp k) h
end Kit
section Kit2
variable {p : Program} {l : Launch} {e : Env} {R : Room} {s : State} {m : MethodId} {args : Array Value} {below : List Frame} {meth : Method} {c : Code} {T : State} {locs : List Loc} {cells slots : Nat} {Z : State} {a0 : Array Value} {h : Heap}
theorem own_ltE {a : Nat} {C : String} (E : Exa Z h a C) : a < h.size := E.lt
theorem own_ltV {a : Nat} {k : ClassId} {ty : FieldType} {z : Int32} {vs : List Value} {d : Value} (E : Arv Z h a k ty z vs d) : a < h.size := E.lt
theorem own_cat {v : Value} (h : v.isRef = true) : v.category = 1 := by rcases ref_cases h with rfl | ⟨a, rfl⟩ <;> rfl
theorem own_fits {v : Value} {t : FieldType} (h : v.isRef = true) : fits (.array t) v = true := by rcases ref_cases h with rfl | ⟨a, rfl⟩ <;> rfl
theorem own_sto {a y : Addr} {v : Value} (hv : v = .null ∨ v = .ref y) (H : Sto Z h a (.ref y)) : Sto Z h a v := by
  rcases hv with rfl | rfl
  · exact Or.inl rfl
  · exact H
/-- a private method of a class that can be made selects itself -/
theorem own_selp {y : MethodName} {n : Nat} (hZ : Z.Warmed39 s.vm) (wi : (Jvm.Cond.instantiable y.cls n).before a0 Z = true) (hp : s.PrivateAt y) (hi : (Jvm.Cond.instanceMethod y).before args s = true) (hy : y.cls ≠ "java/lang/invoke/MethodHandle" ∧ y.cls ≠ "java/lang/invoke/VarHandle") : (Jvm.Cond.selects y.cls y y).before args s = true := by
  obtain ⟨c1, k1, i1, i2, -, i4, -⟩ := Cond.instantiable_spec (mv (args := args) hZ wi)
  exact selects_self_of_private i1 i2 (by simpa using (Bool.or_eq_false_iff.mp i4).1) hp hi hy
/-- anewarray of an ordinary class, with the class of what is made -/
theorem own_newR (X : Stand p l e R s m args below meth c T locs cells slots) (hx : p.tables.exec = Jvm.exec) (hZ : Z.Warmed39 s.vm) {own C : String} {index : Nat} (hO : s.vm.findClass own = some m.cls) (w1 : (Jvm.Cond.classLink own index C).before a0 Z = true) (w2 : (Jvm.Cond.arrayOver (.object C)).before a0 Z = true)
    (eT : T.heap = h) {g : JFrame} (hg : g.method = m) (hd : decode c.code g.pc = .ok (.anewarray index, 3)) {n : Int32} {rest : List Value} (hs : g.stack = .int n :: rest) (hn : ¬ n < 0) {cap : Nat} (hcap : n.toNatClampNeg ≤ cap) (hb : cap * 8 ≤ 536870912) (hc : cells + 1 ≤ R.cells) (hl : slots + cap ≤ R.slots) {ad : String} (had : "[" ++ (FieldType.object C).toString = ad) :
    ∃ T' h' cA, Stand p l e R s m args below meth c T' locs (cells + 1) (slots + cap) ∧ T'.heap = h' ∧ Ext h h' ∧ Arr Z h' h.size (newA cA (.object C) n) (.object C) ∧ Exa Z h' h.size ad ∧ Ovr Z cA C ∧
      ∀ target, Steps p.tables e below (T'.setTop { g with pc := g.pc + 3, stack := .ref h.size :: rest }) target → Steps p.tables e below (T.setTop g) target := by
  obtain ⟨vm₁, cA, kA, comp, -, h1, h2, h3, h4, X', st⟩ := X.anewarrayRefK hx hO (mv hZ w1) (Cond.arrayOver_alike hZ.alike w2) hg hd hs hn (by omega) hc (by omega)
  subst eT
  rw [had, hZ.alike.findClass] at h1
  rw [hZ.alike.findClass] at h4
  obtain ⟨kZ, z1, -⟩ := Vm.findClass_spec h1
  obtain ⟨k', z2, z3⟩ := hZ.alike.2.2 _ _ z1
  cases h2.symm.trans z2
  have kk : kZ.kind = .array comp (.object C) := by rw [← h3, z3]
  have A : Arr Z ((T.setVm vm₁).pushCell { cls := cA, slots := Array.replicate n.toNatClampNeg .null, vm := .none }).heap T.heap.size (newA cA (.object C) n) (.object C) :=
    ⟨by show (T.heap.push _)[T.heap.size]? = _; simp [newA, defaultValue], ⟨by simp [newA], kZ, z1, comp, kk⟩, by simp [newA]⟩
  exact ⟨_, _, cA, X'.more (Nat.le_refl _) (by omega), rfl, ext_of fun a q => Array.getElem?_push_lt q |>.trans (Array.getElem?_eq_getElem q).symm, A, exa_arr A h1 rfl, ⟨kZ, comp, z1, kk, h4⟩, st⟩
end Kit2
def QV (val : Value) (h0 : Heap) (n0 : Nat) (v : Option Value) (h : Heap) (L : List Loc) : Prop := v = some val ∧ Fr n0 L ∧ h = h0
def QV0 (h0 : Heap) (n0 : Nat) (v : Option Value) (h : Heap) (L : List Loc) : Prop := v = none ∧ Fr n0 L ∧ h = h0
section Kit3
variable {p : Program} {l : Launch} {e : Env} {R : Room} {s : State} {m : MethodId} {args : Array Value} {below : List Frame} {meth : Method} {c : Code} {T : State} {locs : List Loc} {cells slots : Nat} {Z : State} {a0 : Array Value} {h h' : Heap} {Q : Outcome → State → Prop} {pc : Nat} {Ls : Array Slot} {st : List Value} {a b : Nat} {own C O R0 n d : String} {index : Nat} {v w : Value} {sl : Nat} {k : ClassId} {ty : FieldType} {z j : Int32} {vs : List Value} {dv : Value}
theorem fo (W : Wr h h' a sl v) (F : Fld Z h b C n d w) (q : b ≠ a := by omega) : Fld Z h' b C n d w := Fld.other W F (Or.inl q)
theorem vo (V : Arv Z h b k ty z vs dv) (W : Wr h h' a sl v) (q : b ≠ a := by omega) : Arv Z h' b k ty z vs dv := Arv.other V W q
theorem gF (X : Stand p l e R s m args below meth c T locs cells slots) (hx : p.tables.exec = Jvm.exec) (hZ : Z.Warmed39 s.vm) (hO : s.vm.findClass own = some m.cls) (w1 : (Jvm.Cond.fieldLink own index R0 n d).before a0 Z = true) (via : Via Z R0 O n d) (eT : T.heap = h) (F : Fld Z h a O n d v) (hd : decode c.code pc = .ok (.getfield index, 3))
    (k : ∀ T', Stand p l e R s m args below meth c T' locs cells slots → T'.heap = h → EndsSo p e below Q T' (mkF m (pc + 3) Ls (v :: st))) : EndsSo p e below Q T (mkF m pc Ls (.ref a :: st)) := by
  obtain ⟨T', X', e', s'⟩ := getF X hx hZ hO (host := "") (Or.inl w1) via eT F (g := mkF m pc Ls (.ref a :: st)) rfl rfl hd
  exact f_by s' (k T' X' e')
theorem f_getS (X : Stand p l e R s m args below meth c T locs cells slots) (hx : p.tables.exec = Jvm.exec) (hZ : Z.Warmed39 s.vm) (hO : s.vm.findClass own = some m.cls) (w1 : (Jvm.Cond.fieldLink own index O n d).before a0 Z = true) (eT : T.heap = h) (F : Sta Z h O n d v) (hd : decode c.code pc = .ok (.getstatic index, 3))
    (k : ∀ T', Stand p l e R s m args below meth c T' locs cells slots → T'.heap = h → EndsSo p e below Q T' (mkF m (pc + 3) Ls (v :: st))) : EndsSo p e below Q T (mkF m pc Ls st) := by
  obtain ⟨T', X', e', s'⟩ := getS X hx hZ hO (host := "") w1 Via.refl eT F (g := mkF m pc Ls st) rfl hd
  exact f_by s' (k T' X' e')
theorem f_putF (X : Stand p l e R s m args below meth c T locs cells slots) (hx : p.tables.exec = Jvm.exec) (hZ : Z.Warmed39 s.vm) (hO : s.vm.findClass own = some m.cls) (w1 : (Jvm.Cond.fieldLink own index R0 n d).before a0 Z = true) (via : Via Z R0 O n d) (eT : T.heap = h) {old : Value} {kk : Nat} (F : Fld Z h a O n d old) (E : Exa Z h a C) (L : (Jvm.Cond.lays C O n d).before a0 Z = true ∨ ((Jvm.Cond.laysFinal C O n d).before a0 Z = true ∧ own = O ∧ meth.name = "<init>")) (wi : (Jvm.Cond.instantiable C kk).before a0 Z = true)
    (hty : parseFieldDescriptor d = some ty) (hn : narrow ty v = v) (hf : fits ty v = true) (hd : decode c.code pc = .ok (.putfield index, 3))
    (k : ∀ T' h', Stand p l e R s m args below meth c T' (locs ++ [⟨a, Jvm.RoadKit.slotOf Z O n d⟩]) cells slots → T'.heap = h' → Wr h h' a (Jvm.RoadKit.slotOf Z O n d) v → EndsSo p e below Q T' (mkF m (pc + 3) Ls st)) : EndsSo p e below Q T (mkF m pc Ls (v :: .ref a :: st)) := by
  obtain ⟨T', h', X', e', W', s'⟩ := putF X hx hZ hO (host := "") (Or.inl w1) via eT F E L wi hty hn hf (g := mkF m pc Ls (v :: .ref a :: st)) rfl rfl hd
  exact f_by s' (k T' h' X' e' W')
theorem f_len (X : Stand p l e R s m args below meth c T locs cells slots) (hx : p.tables.exec = Jvm.exec) (hZ : Z.Warmed39 s.vm) (eT : T.heap = h) (V : Arv Z h a k ty z vs dv) (hd : decode c.code pc = .ok (.arraylength, 1)) (hr : EndsSo p e below Q T (mkF m (pc + 1) Ls (.int z :: st))) : EndsSo p e below Q T (mkF m pc Ls (.ref a :: st)) := by
  obtain ⟨cl, Ar, -, S, N, -, -⟩ := V
  exact f_by (fun _ q => X.arraylength hx (by rw [eT]; exact Ar.1) (State.isArrayOf_alike hZ.alike Ar.2.1) (g := mkF m pc Ls (.ref a :: st)) rfl rfl hd _ (by rw [len_of S N]; exact q)) hr
theorem f_iald (X : Stand p l e R s m args below meth c T locs cells slots) (hx : p.tables.exec = Jvm.exec) (hZ : Z.Warmed39 s.vm) (eT : T.heap = h) (V : Arv Z h a k .int z vs dv) (hv : vs.getD j.toNatClampNeg dv = v) (hd : decode c.code pc = .ok (.iaload, 1)) (hr : EndsSo p e below Q T (mkF m (pc + 1) Ls (v :: st))) (hi : ¬ j < 0 ∧ j < z := by decide) : EndsSo p e below Q T (mkF m pc Ls (.int j :: .ref a :: st)) := by
  obtain ⟨cl, Ar, -, S, -, H, -⟩ := V
  exact f_by (fun _ q => X.iaload hx (by rw [eT]; exact Ar.1) (State.isArrayOf_alike hZ.alike Ar.2.1) Ar.2.2 (inb_of S hi) (H.at (inb_of S hi) hv) (g := mkF m pc Ls (.int j :: .ref a :: st)) rfl rfl hd _ q) hr
theorem f_lald (X : Stand p l e R s m args below meth c T locs cells slots) (hx : p.tables.exec = Jvm.exec) (hZ : Z.Warmed39 s.vm) (eT : T.heap = h) (V : Arv Z h a k .long z vs dv) (hv : vs.getD j.toNatClampNeg dv = v) (hd : decode c.code pc = .ok (.laload, 1)) (hr : EndsSo p e below Q T (mkF m (pc + 1) Ls (v :: st))) (hi : ¬ j < 0 ∧ j < z := by decide) : EndsSo p e below Q T (mkF m pc Ls (.int j :: .ref a :: st)) := by
  obtain ⟨cl, Ar, -, S, -, H, -⟩ := V
  exact f_by (fun _ q => X.laload hx (by rw [eT]; exact Ar.1) (State.isArrayOf_alike hZ.alike Ar.2.1) Ar.2.2 (inb_of S hi) (H.at (inb_of S hi) hv) (g := mkF m pc Ls (.int j :: .ref a :: st)) rfl rfl hd _ q) hr
theorem f_aald (X : Stand p l e R s m args below meth c T locs cells slots) (hx : p.tables.exec = Jvm.exec) (hZ : Z.Warmed39 s.vm) (eT : T.heap = h) (V : Arv Z h a k ty z vs dv) (ht : ty.isReference = true) (hv : vs.getD j.toNatClampNeg dv = v) (hd : decode c.code pc = .ok (.aaload, 1)) (hr : EndsSo p e below Q T (mkF m (pc + 1) Ls (v :: st))) (hi : ¬ j < 0 ∧ j < z := by decide) : EndsSo p e below Q T (mkF m pc Ls (.int j :: .ref a :: st)) := by
  obtain ⟨cl, Ar, -, S, -, H, -⟩ := V
  exact f_by (fun _ q => X.aaload hx (by rw [eT]; exact Ar.1) (State.isArrayOf_alike hZ.alike Ar.2.1) ht Ar.2.2 (inb_of S hi) (H.at (inb_of S hi) hv) (g := mkF m pc Ls (.int j :: .ref a :: st)) rfl rfl hd _ q) hr
theorem f_ist (X : Stand p l e R s m args below meth c T locs cells slots) (hx : p.tables.exec = Jvm.exec) (hZ : Z.Warmed39 s.vm) (eT : T.heap = h) {x : Int32} (V : Arv Z h a k .int z vs dv) (i : Nat) (hd : decode c.code pc = .ok (.iastore, 1))
    (kk : ∀ T' h', Stand p l e R s m args below meth c T' (locs ++ [⟨a, j.toNatClampNeg⟩]) cells slots → T'.heap = h' → Wr h h' a j.toNatClampNeg (.int x) → Arv Z h' a k .int z (vs.set i (.int x)) dv → EndsSo p e below Q T' (mkF m (pc + 1) Ls st)) (hi : ¬ j < 0 ∧ j < z := by decide) (hj : j.toNatClampNeg = i := by rfl) (hl : i < vs.length := by exact Nat.le_of_ble_eq_true rfl) : EndsSo p e below Q T (mkF m pc Ls (.int x :: .int j :: .ref a :: st)) := by
  obtain ⟨cl, Ar, q, S, N, H, G⟩ := V
  obtain ⟨T', h', X', e', W', s'⟩ := stI X hx hZ eT Ar (inb_of S hi) (g := mkF m pc Ls (.int x :: .int j :: .ref a :: st)) rfl rfl hd
  exact f_by s' (kk T' h' X' e' W' (Arv.set Ar q S N H G rfl W' i hj hl))
theorem f_lst (X : Stand p l e R s m args below meth c T locs cells slots) (hx : p.tables.exec = Jvm.exec) (hZ : Z.Warmed39 s.vm) (eT : T.heap = h) {x : Int64} (V : Arv Z h a k .long z vs dv) (i : Nat) (hd : decode c.code pc = .ok (.lastore, 1))
    (kk : ∀ T' h', Stand p l e R s m args below meth c T' (locs ++ [⟨a, j.toNatClampNeg⟩]) cells slots → T'.heap = h' → Wr h h' a j.toNatClampNeg (.long x) → Arv Z h' a k .long z (vs.set i (.long x)) dv → EndsSo p e below Q T' (mkF m (pc + 1) Ls st)) (hi : ¬ j < 0 ∧ j < z := by decide) (hj : j.toNatClampNeg = i := by rfl) (hl : i < vs.length := by exact Nat.le_of_ble_eq_true rfl) : EndsSo p e below Q T (mkF m pc Ls (.long x :: .int j :: .ref a :: st)) := by
  obtain ⟨cl, Ar, q, S, N, H, G⟩ := V
  obtain ⟨T', h', X', e', W', s'⟩ := stJ X hx hZ eT Ar (inb_of S hi) (g := mkF m pc Ls (.long x :: .int j :: .ref a :: st)) rfl rfl hd
  exact f_by s' (kk T' h' X' e' W' (Arv.set Ar q S N H G rfl W' i hj hl))
theorem f_ast (X : Stand p l e R s m args below meth c T locs cells slots) (hx : p.tables.exec = Jvm.exec) (hZ : Z.Warmed39 s.vm) (eT : T.heap = h) (V : Arv Z h a k ty z vs dv) (ht : ty.isReference = true) (F : Sto Z h a v) (hf : fits ty v = true) (i : Nat) (hd : decode c.code pc = .ok (.aastore, 1))
    (kk : ∀ T' h', Stand p l e R s m args below meth c T' (locs ++ [⟨a, j.toNatClampNeg⟩]) cells slots → T'.heap = h' → Wr h h' a j.toNatClampNeg v → Arv Z h' a k ty z (vs.set i v) dv → EndsSo p e below Q T' (mkF m (pc + 1) Ls st)) (hi : ¬ j < 0 ∧ j < z := by decide) (hj : j.toNatClampNeg = i := by rfl) (hl : i < vs.length := by exact Nat.le_of_ble_eq_true rfl) : EndsSo p e below Q T (mkF m pc Ls (v :: .int j :: .ref a :: st)) := by
  obtain ⟨cl, Ar, q, S, N, H, G⟩ := V
  obtain ⟨T', h', X', e', W', s'⟩ := stR X hx hZ eT Ar (inb_of S hi) ht F (g := mkF m pc Ls (v :: .int j :: .ref a :: st)) rfl rfl hd
  exact f_by s' (kk T' h' X' e' W' (Arv.set Ar q S N H G hf W' i hj hl))
theorem f_ldc2 (X : Stand p l e R s m args below meth c T locs cells slots) (hx : p.tables.exec = Jvm.exec) (hZ : Z.Warmed39 s.vm) (hO : s.vm.findClass own = some m.cls) {x : Int64} (w1 : (Jvm.Cond.constantLong own index x).before a0 Z = true) (hd : decode c.code pc = .ok (.ldc2_w index, 3)) (hr : EndsSo p e below Q T (mkF m (pc + 3) Ls (.long x :: st))) : EndsSo p e below Q T (mkF m pc Ls st) :=
  f_by (fun _ q => X.ldc2Long hx hO (mvT hZ w1) (g := mkF m pc Ls st) rfl hd _ q) hr
theorem f_ldc (X : Stand p l e R s m args below meth c T locs cells slots) (hx : p.tables.exec = Jvm.exec) (hZ : Z.Warmed39 s.vm) (hO : s.vm.findClass own = some m.cls) {x : Int32} (w1 : (Jvm.Cond.constant own index x).before a0 Z = true) (hd : decode c.code pc = .ok (.ldc index, 2)) (hr : EndsSo p e below Q T (mkF m (pc + 2) Ls (.int x :: st))) : EndsSo p e below Q T (mkF m pc Ls st) :=
  f_by (fun _ q => X.ldcInt hx hO (mvT hZ w1) (g := mkF m pc Ls st) rfl hd _ q) hr
/-- null or the row, by a bit -/
theorem own_mrg (X : Stand p l e R s m args below meth c T locs cells slots) (hx : p.tables.exec = Jvm.exec) {t : Int32} {row : Nat} (ht : t = 0 ∨ t = 1) (d1 : decode c.code pc = .ok (.ifCond .eq 7, 3)) (d2 : decode c.code (pc + 7) = .ok (.aload 10, 2)) (d3 : decode c.code (pc + 3) = .ok (.aconst_null, 1)) (d4 : decode c.code (pc + 4) = .ok (.goto 5, 3)) (hl : Ls[10]? = some (.val (.ref row)))
    (kk : ∀ r : Value, r.isRef = true → (r = .null ∨ r = .ref row) → ((t = 0 ∧ r = .ref row) ∨ (t = 1 ∧ r = .null)) → EndsSo p e below Q T (mkF m (pc + 9) Ls (r :: st))) : EndsSo p e below Q T (mkF m pc Ls (.int t :: st)) := by
  rcases ht with rfl | rfl
  · exact fY X hx (pc + 7) d1 (aA X hx d2 hl rfl (kk _ rfl (Or.inr rfl) (Or.inl ⟨rfl, rfl⟩))) (by decide +kernel) (by omega) (by omega)
  · exact fN X hx d1 (f_null X hx d3 (gT X hx (pc + 9) d4 (kk _ rfl (Or.inl rfl) (Or.inr ⟨rfl, rfl⟩)) (by omega) (by omega)))
theorem xw (W : Wr h h' a sl v) (F : Exa Z h b C) : Exa Z h' b C := Exa.wr W F
theorem xe (E : Ext h h') (F : Exa Z h b C) : Exa Z h' b C := Exa.ext E F
theorem fe (E : Ext h h') (F : Fld Z h b C n d w) : Fld Z h' b C n d w := Fld.ext E F
theorem ve (V : Arv Z h b k ty z vs dv) (E : Ext h h') : Arv Z h' b k ty z vs dv := Arv.ext V E
theorem own_stoV {y : Nat} (V : Arv Z h a k ty z vs dv) (Ov : Ovr Z k C) (I : Ins Z h y C true) : Sto Z h a (.ref y) := by
  obtain ⟨cl, Ar, q, -⟩ := V; exact Sto.ofV Ar q Ov I
theorem own_stoVA {y : Nat} {t : FieldType} (V : Arv Z h a k ty z vs dv) (Ov : OvrA Z k t C) (I : Ins Z h y C true) : Sto Z h a (.ref y) := by
  obtain ⟨cl, Ar, q, -⟩ := V; exact Sto.ofVA Ar q Ov I
theorem f_newP (X : Stand p l e R s m args below meth c T locs cells slots) (hx : p.tables.exec = Jvm.exec) (hZ : Z.Warmed39 s.vm) {aty : ArrayType} (w1 : (Jvm.Cond.arrayClass (newarray.typeOf aty)).before a0 Z = true) (eT : T.heap = h) (hd : decode c.code pc = .ok (.newarray aty, 2)) (cap : Nat)
    (kk : ∀ T' h' kA (b : Nat), b = h.size → Stand p l e R s m args below meth c T' locs (cells + 1) (slots + cap) → T'.heap = h' → Ext h h' → Arv Z h' b kA (newarray.typeOf aty) z ([] ++ List.replicate cap (defaultValue (newarray.typeOf aty))) (defaultValue (newarray.typeOf aty)) → EndsSo p e below Q T' (mkF m (pc + 2) Ls (.ref b :: st))) (hn : ¬ z < 0 := by decide) (hcap : z.toNatClampNeg ≤ cap := by decide) (hb : cap * 8 ≤ 536870912 := by decide) (hc : cells + 1 ≤ R.cells := by decide) (hl : slots + cap ≤ R.slots := by decide) : EndsSo p e below Q T (mkF m pc Ls (.int z :: st)) := by
  obtain ⟨T', h', kA, X', e', E', A', s'⟩ := newP X hx hZ w1 eT (g := mkF m pc Ls (.int z :: st)) rfl hd rfl hn hcap hb hc hl
  exact f_by s' (kk T' h' kA _ rfl X' e' E' ((Arv.new A' hn).pad (pad_rep [] _ cap)))
theorem f_newR (X : Stand p l e R s m args below meth c T locs cells slots) (hx : p.tables.exec = Jvm.exec) (hZ : Z.Warmed39 s.vm) (hO : s.vm.findClass own = some m.cls) (w1 : (Jvm.Cond.classLink own index C).before a0 Z = true) (w2 : (Jvm.Cond.arrayOver (.object C)).before a0 Z = true) (eT : T.heap = h) (hd : decode c.code pc = .ok (.anewarray index, 3)) (cap : Nat) {ad : String} (had : "[" ++ (FieldType.object C).toString = ad)
    (kk : ∀ T' h' kA (b : Nat), b = h.size → Stand p l e R s m args below meth c T' locs (cells + 1) (slots + cap) → T'.heap = h' → Ext h h' → Arv Z h' b kA (.object C) z ([] ++ List.replicate cap .null) .null → Exa Z h' b ad → Ovr Z kA C → EndsSo p e below Q T' (mkF m (pc + 3) Ls (.ref b :: st))) (hn : ¬ z < 0 := by decide) (hcap : z.toNatClampNeg ≤ cap := by decide) (hb : cap * 8 ≤ 536870912 := by decide) (hc : cells + 1 ≤ R.cells := by decide) (hl : slots + cap ≤ R.slots := by decide) : EndsSo p e below Q T (mkF m pc Ls (.int z :: st)) := by
  obtain ⟨T', h', kA, X', e', E', A', B', O', s'⟩ := own_newR X hx hZ hO w1 w2 eT (g := mkF m pc Ls (.int z :: st)) rfl hd rfl hn hcap hb hc hl had
  exact f_by s' (kk T' h' kA _ rfl X' e' E' ((Arv.new A' hn).pad (pad_rep [] _ cap)) B' O')
theorem f_newRA (X : Stand p l e R s m args below meth c T locs cells slots) (hx : p.tables.exec = Jvm.exec) (hZ : Z.Warmed39 s.vm) (hO : s.vm.findClass own = some m.cls) (hC : (FieldType.array ty).toString = C) (w1 : (Jvm.Cond.classLink own index C).before a0 Z = true) (w2 : (Jvm.Cond.arrayOver (.array ty)).before a0 Z = true) (eT : T.heap = h) (hd : decode c.code pc = .ok (.anewarray index, 3)) (cap : Nat) {ad : String} (had : "[" ++ C = ad)
    (kk : ∀ T' h' kA (b : Nat), b = h.size → Stand p l e R s m args below meth c T' locs (cells + 1) (slots + cap) → T'.heap = h' → Ext h h' → Arv Z h' b kA (.array ty) z ([] ++ List.replicate cap .null) .null → Exa Z h' b ad → OvrA Z kA ty C → EndsSo p e below Q T' (mkF m (pc + 3) Ls (.ref b :: st))) (hn : ¬ z < 0 := by decide) (hcap : z.toNatClampNeg ≤ cap := by decide) (hb : cap * 8 ≤ 536870912 := by decide) (hc : cells + 1 ≤ R.cells := by decide) (hl : slots + cap ≤ R.slots := by decide) : EndsSo p e below Q T (mkF m pc Ls (.int z :: st)) := by
  obtain ⟨T', h', kA, X', e', E', A', B', O', s'⟩ := newRA X hx hZ hO hC w1 w2 eT (g := mkF m pc Ls (.int z :: st)) rfl hd rfl hn hcap hb hc hl had
  exact f_by s' (kk T' h' kA _ rfl X' e' E' ((Arv.new A' hn).pad (pad_rep [] _ cap)) B' O')
theorem f_newO (X : Stand p l e R s m args below meth c T locs cells slots) (hx : p.tables.exec = Jvm.exec) (hZ : Z.Warmed39 s.vm) {nn : Nat} (hO : s.vm.findClass own = some m.cls) (w1 : (Jvm.Cond.classLink own index C).before a0 Z = true) (wi : (Jvm.Cond.instantiable C nn).before a0 Z = true) (wz : (Jvm.Cond.initialized C).before a0 Z = true) (eT : T.heap = h) (hd : decode c.code pc = .ok (.new index, 3)) 
    (kk : ∀ T' h' (b : Nat), b = h.size → Stand p l e R s m args below meth c T' locs (cells + 1) (slots + nn) → T'.heap = h' → Ext h h' → Exa Z h' b C → (∀ {O nm d : String} {ty : FieldType}, Laid Z a0 C O nm d → parseFieldDescriptor d = some ty → Fld Z h' b O nm d (defaultValue ty)) → EndsSo p e below Q T' (mkF m (pc + 3) Ls (.ref b :: st))) (hc : cells + 1 ≤ R.cells := by decide) (hl : slots + nn ≤ R.slots := by decide) : EndsSo p e below Q T (mkF m pc Ls st) := by
  obtain ⟨T', h', X', e', E', A', D', -, s'⟩ := newO X hx hZ hO w1 wi wz eT (g := mkF m pc Ls st) rfl hd hc hl
  exact f_by s' (kk T' h' _ rfl X' e' E' A' D')
variable {y : MethodName} {bytes : ByteArray} {maxL : Nat} {ret : Option FieldType} {rm : Room} {W : Nat} {as' : Array Value} {QQ : Option Value → Heap → List Loc → Prop} {argsL rest : List Value}
theorem f_stat (X : Stand p l e R s m args below meth c T locs cells slots) (hx : p.tables.exec = Jvm.exec) (hZ : Z.Warmed39 s.vm) (hO : s.vm.findClass own = some m.cls) (hml : Ls.size = c.maxLocals) (w1 : (Jvm.Cond.methodLink own index y).before a0 Z = true) (w2 : (Jvm.Cond.static y).before a0 Z = true) (w3 : (Jvm.Cond.initialized y.cls).before a0 Z = true) (w4 : (Jvm.Cond.code y bytes maxL ret).before a0 Z = true) (eT : T.heap = h)
    (hM : MetFree l y (head1 [Jvm.Cond.code y bytes maxL ret] rm) (fun a U => a = argsL.toArray ∧ Z.Warmed39 U.vm ∧ U.heap = h) (fun _ _ _ _ _ => True) (fun _ U o U' => ∃ v L, o = .returned v ∧ QQ v U'.heap L ∧ FrameEnd U o U' L rm.cells rm.slots))
    (hlen : ∀ sig, parseMethodDescriptor y.desc = some sig → argsL.length = sig.parameters.length) (hd : decode c.code pc = .ok (.invokestatic index, 3))
    (kk : ∀ T' L v, Stand p l e R s m args below meth c T' (locs ++ L) (cells + rm.cells) (slots + rm.slots) → QQ v T'.heap L → EndsSo p e below Q T' (mkF m (pc + 3) Ls (v.toList ++ rest))) (hy : y.cls ≠ "java/lang/invoke/MethodHandle" ∧ y.cls ≠ "java/lang/invoke/VarHandle" := by decide) (hf : rm.frames + 1 ≤ R.frames := by decide) (hl : (rest.map fun v => v.category).sum + (maxL + 11) + rm.locals ≤ R.locals := by exact Nat.le_of_ble_eq_true rfl) (hc : cells + rm.cells ≤ R.cells := by decide) (hs : slots + rm.slots ≤ R.slots := by decide) : EndsSo p e below Q T (mkF m pc Ls (argsL.reverse ++ rest)) := by
  obtain ⟨v, _, ⟨T', L, k, n⟩, -, X', ⟨Lc, hQ, l', y', z'⟩, s'⟩ := Jvm.LawKit.callS X hx (y := y) hO (mvT hZ w1) (mvT hZ w2) (mvT hZ w3) (mvT hZ w4) hy (backOf (W := (rest.map fun v => v.category).sum) hM hZ w4 w3 hf hl) (g := mkF m pc Ls (argsL.reverse ++ rest)) rfl hml (argsL := argsL) (rest := rest) hlen rfl (by show 2 * 0 + _ ≤ _; omega) hd (fun _ _ => ⟨rfl, eT, hc, hs⟩)
  dsimp only [Pt.U, Pt.locs, Pt.cells, Pt.slots] at X' l' y' z' s' hQ
  subst l' y' z'
  exact f_by s' (kk T' Lc v X' hQ)
theorem f_spec (X : Stand p l e R s m args below meth c T locs cells slots) (hx : p.tables.exec = Jvm.exec) (hZ : Z.Warmed39 s.vm) (hO : s.vm.findClass own = some m.cls) (hml : Ls.size = c.maxLocals) (hy1 : y.name = "<init>") (w1 : (Jvm.Cond.methodLink own index y).before a0 Z = true) (w2 : (Jvm.Cond.instanceMethod y).before a0 Z = true) (w3 : (Jvm.Cond.initialized y.cls).before a0 Z = true) (w4 : (Jvm.Cond.code y bytes maxL none).before a0 Z = true) (eT : T.heap = h)
    (hM : MetFree l y (head1 [Jvm.Cond.code y bytes maxL none] rm) (fun q U => q = (.ref a :: argsL).toArray ∧ Z.Warmed39 U.vm ∧ U.heap = h) (fun _ _ _ _ _ => True) (fun _ U o U' => ∃ v L, o = .returned v ∧ QQ v U'.heap L ∧ FrameEnd U o U' L rm.cells rm.slots))
    (hlen : ∀ sig, parseMethodDescriptor y.desc = some sig → argsL.length = sig.parameters.length) (hd : decode c.code pc = .ok (.invokespecial index, 3))
    (kk : ∀ T' L v, Stand p l e R s m args below meth c T' (locs ++ L) (cells + rm.cells) (slots + rm.slots) → QQ v T'.heap L → EndsSo p e below Q T' (mkF m (pc + 3) Ls (v.toList ++ rest))) (hy : y.cls ≠ "java/lang/invoke/MethodHandle" ∧ y.cls ≠ "java/lang/invoke/VarHandle" := by decide) (hf : rm.frames + 1 ≤ R.frames := by decide) (hl : (rest.map fun v => v.category).sum + (maxL + 11) + rm.locals ≤ R.locals := by exact Nat.le_of_ble_eq_true rfl) (hc : cells + rm.cells ≤ R.cells := by decide) (hs : slots + rm.slots ≤ R.slots := by decide) : EndsSo p e below Q T (mkF m pc Ls (argsL.reverse ++ .ref a :: rest)) := by
  obtain ⟨v, _, ⟨T', L, k, n⟩, -, X', ⟨Lc, hQ, l', y', z'⟩, s'⟩ := X.specialBack hx (y := y) hy1 hO (mvT hZ w1) (mvT hZ w2) (mvT hZ w4) hy (backOf (W := (rest.map fun v => v.category).sum) hM hZ w4 w3 hf hl) (g := mkF m pc Ls (argsL.reverse ++ .ref a :: rest)) rfl hml (Steps.refl _) (a := a) (argsL := argsL) (rest := rest) hlen rfl (by show 2 * 0 + _ ≤ _; omega) hd (fun _ _ => ⟨rfl, eT, hc, hs⟩)
  dsimp only [Pt.U, Pt.locs, Pt.cells, Pt.slots] at X' l' y' z' s' hQ
  subst l' y' z'
  exact f_run s' (kk T' Lc v X' hQ)
theorem pV (X : Stand p l e R s m args below meth c T locs cells slots) (hx : p.tables.exec = Jvm.exec) (hZ : Z.Warmed39 s.vm) (hO : s.vm.findClass own = some m.cls) (hml : Ls.size = c.maxLocals) {kk0 : Nat} (w1 : (Jvm.Cond.methodLink own index y).before a0 Z = true) (w2 : (Jvm.Cond.instanceMethod y).before a0 Z = true) (wp : (Jvm.Cond.privateMethod y).before a0 Z = true) (wi : (Jvm.Cond.instantiable y.cls kk0).before a0 Z = true) (w3 : (Jvm.Cond.initialized y.cls).before a0 Z = true) (w4 : (Jvm.Cond.code y bytes maxL ret).before a0 Z = true) (eT : T.heap = h) (E : Exa Z h a C)
    (hM : MetFree l y (head1 [Jvm.Cond.code y bytes maxL ret] rm) (fun q U => q = (.ref a :: argsL).toArray ∧ Z.Warmed39 U.vm ∧ U.heap = h) (fun _ _ _ _ _ => True) (fun _ U o U' => ∃ v L, o = .returned v ∧ QQ v U'.heap L ∧ FrameEnd U o U' L rm.cells rm.slots))
    (hlen : ∀ sig, parseMethodDescriptor y.desc = some sig → argsL.length = sig.parameters.length) (hd : decode c.code pc = .ok (.invokevirtual index, 3))
    (kk : ∀ T' L v, Stand p l e R s m args below meth c T' (locs ++ L) (cells + rm.cells) (slots + rm.slots) → QQ v T'.heap L → EndsSo p e below Q T' (mkF m (pc + 3) Ls (v.toList ++ rest))) (hy : y.cls ≠ "java/lang/invoke/MethodHandle" ∧ y.cls ≠ "java/lang/invoke/VarHandle" := by decide) (hf : rm.frames + 1 ≤ R.frames := by decide) (hl : (rest.map fun v => v.category).sum + (maxL + 11) + rm.locals ≤ R.locals := by exact Nat.le_of_ble_eq_true rfl) (hc : cells + rm.cells ≤ R.cells := by decide) (hs : slots + rm.slots ≤ R.slots := by decide) : EndsSo p e below Q T (mkF m pc Ls (argsL.reverse ++ .ref a :: rest)) := by
  obtain ⟨cq, q1, q2⟩ := Exa.cell E
  have hp : s.PrivateAt y := Cond.privateMethod_at (mvP (args := args) hZ wp)
  obtain ⟨v, _, ⟨T', L, k, n⟩, -, X', ⟨Lc, hQ, l', y', z'⟩, s'⟩ := X.privateBack hx (y := y) hO (mvT hZ w1) (mvT hZ w2) (own_selp hZ wi hp (mvT hZ w2) hy) hp (mvT hZ w4) hy (backOf (W := (rest.map fun v => v.category).sum) hM hZ w4 w3 hf hl) (g := mkF m pc Ls (argsL.reverse ++ .ref a :: rest)) rfl hml (Steps.refl _) (a := a) (by rw [eT]; exact q1) q2 (argsL := argsL) (rest := rest) hlen rfl (by show 2 * 0 + _ ≤ _; omega) hd (fun _ _ => ⟨rfl, eT, hc, hs⟩)
  dsimp only [Pt.U, Pt.locs, Pt.cells, Pt.slots] at X' l' y' z' s' hQ
  subst l' y' z'
  exact f_run s' (kk T' Lc v X' hQ)
theorem vV (X : Stand p l e R s m args below meth c T locs cells slots) (hx : p.tables.exec = Jvm.exec) (hZ : Z.Warmed39 s.vm) (hO : s.vm.findClass own = some m.cls) (hml : Ls.size = c.maxLocals) (w1 : (Jvm.Cond.methodLink own index y).before a0 Z = true) (wd : (Jvm.Cond.declares y).before a0 Z = true) (ws : (Jvm.Cond.selects C y y).before a0 Z = true) (w2 : (Jvm.Cond.instanceMethod y).before a0 Z = true) (w3 : (Jvm.Cond.initialized y.cls).before a0 Z = true) (w4 : (Jvm.Cond.code y bytes maxL ret).before a0 Z = true) (eT : T.heap = h) (E : Exa Z h a C)
    (hM : MetFree l y (head1 [Jvm.Cond.code y bytes maxL ret] rm) (fun q U => q = (.ref a :: argsL).toArray ∧ Z.Warmed39 U.vm ∧ U.heap = h) (fun _ _ _ _ _ => True) (fun _ U o U' => ∃ v L, o = .returned v ∧ QQ v U'.heap L ∧ FrameEnd U o U' L rm.cells rm.slots))
    (hlen : ∀ sig, parseMethodDescriptor y.desc = some sig → argsL.length = sig.parameters.length) (hd : decode c.code pc = .ok (.invokevirtual index, 3))
    (kk : ∀ T' L v, Stand p l e R s m args below meth c T' (locs ++ L) (cells + rm.cells) (slots + rm.slots) → QQ v T'.heap L → EndsSo p e below Q T' (mkF m (pc + 3) Ls (v.toList ++ rest))) (hy : y.cls ≠ "java/lang/invoke/MethodHandle" ∧ y.cls ≠ "java/lang/invoke/VarHandle" := by decide) (hf : rm.frames + 1 ≤ R.frames := by decide) (hl : (rest.map fun v => v.category).sum + (maxL + 11) + rm.locals ≤ R.locals := by exact Nat.le_of_ble_eq_true rfl) (hc : cells + rm.cells ≤ R.cells := by decide) (hs : slots + rm.slots ≤ R.slots := by decide) : EndsSo p e below Q T (mkF m pc Ls (argsL.reverse ++ .ref a :: rest)) := by
  obtain ⟨cq, kq, qa, qb, qc⟩ := isOf hZ eT E
  obtain ⟨v, _, ⟨T', L, k, n⟩, -, X', ⟨Lc, hQ, l', y', z'⟩, s'⟩ := X.virtualBack hx (y := y) (z := y) hO (mvT hZ w1) (mvT hZ wd) (notFace_of_selects (args := #[]) (mvT hZ ws)) (mvT hZ ws) (mvT hZ w2) hy (backOf (W := (rest.map fun v => v.category).sum) hM hZ w4 w3 hf hl) qa qc (g := mkF m pc Ls (argsL.reverse ++ .ref a :: rest)) rfl hml (Steps.refl _) (argsL := argsL) (rest := rest) hlen rfl (by show 2 * 0 + _ ≤ _; omega) hd (fun _ _ => ⟨rfl, eT, hc, hs⟩)
  dsimp only [Pt.U, Pt.locs, Pt.cells, Pt.slots] at X' l' y' z' s' hQ
  subst l' y' z'
  exact f_run s' (kk T' Lc v X' hQ)
end Kit3
abbrev HW (a0 : Array Value) (Z : State) : Prop := ∀ d ∈ tables_1, d.before a0 Z = true
abbrev MC (l : Launch) (Z : State) (y : MethodName) (bytes : ByteArray) (maxL : Nat) (ret : Option FieldType) (ws : List Jvm.Cond) (rm : Room) (A : Array Value) (h0 : Heap) (QQ : Option Value → Heap → List Loc → Prop) : Prop :=
  MetFree l y (head1 (Jvm.Cond.code y bytes maxL ret :: ws) rm) (fun a U => a = A ∧ Z.Warmed39 U.vm ∧ U.heap = h0) (fun _ _ _ _ _ => True) (fun _ U o U' => ∃ v L, o = .returned v ∧ QQ v U'.heap L ∧ FrameEnd U o U' L rm.cells rm.slots)
theorem own_met {l : Launch} {Z : State} {y : MethodName} {bytes : ByteArray} {maxL : Nat} {ret : Option FieldType} {ws : List Jvm.Cond} {rm : Room} {A : Array Value} {h0 : Heap} {QQ : Option Value → Heap → List Loc → Prop} (hp : plainFor y = true)
    (H : ∀ (p : Program) (e : Env) (s : State) (m : MethodId) (below : List Frame) (meth : Method) (c : Code) (s₁ : State), Stand p l e rm s m A below meth c s₁ [] 0 0 → p.tables.exec = Jvm.exec → Z.Warmed39 s.vm → c.code = bytes → c.maxLocals = maxL → s.vm.findClass y.cls = some m.cls → meth.name = y.name → meth.locks = false → meth.sig.returnType = ret → s₁.heap = h0 →
      EndsSo p e below (fun o U' => ∃ v L, o = .returned v ∧ QQ v U'.heap L ∧ FrameEnd s o U' L rm.cells rm.slots) s₁ (entryFrame m A maxL)) : MC l Z y bytes maxL ret ws rm A h0 QQ := by
  refine MetFree.of_bodySF hp hisR ?_
  intro p e s m args below meth c s₁ Bd hml0 hP hK
  obtain ⟨rfl, hZ, hh⟩ := hP
  exact H p e s m below meth c s₁ (Stand.of_body Bd) Bd.exec hZ Bd.bytes hml0 (findClass_of_methodNamed Bd.named) (name_of_methodNamed Bd.named Bd.method).1 (BodyLoose.notSynchronized Bd) Bd.returns (by rw [← hh, Bd.state]; rfl)
section Kit4
variable {p : Program} {l : Launch} {e : Env} {R : Room} {s : State} {m : MethodId} {args : Array Value} {below : List Frame} {meth : Method} {c : Code} {T : State} {locs : List Loc} {cells slots : Nat} {Z : State} {a0 : Array Value} {h h' : Heap} {Q : Outcome → State → Prop} {pc : Nat} {Ls : Array Slot} {st : List Value} {a b : Nat} {own C O R0 n d : String} {index : Nat} {v w : Value}
variable {y : MethodName} {bytes : ByteArray} {maxL : Nat} {ret : Option FieldType} {rm : Room} {as' : Array Value} {QQ : Option Value → Heap → List Loc → Prop} {argsL rest : List Value}
theorem f_face (X : Stand p l e R s m args below meth c T locs cells slots) (hx : p.tables.exec = Jvm.exec) (hZ : Z.Warmed39 s.vm) (hO : s.vm.findClass own = some m.cls) (hml : Ls.size = c.maxLocals) {xi : MethodName} {count : Nat} (w1 : (Jvm.Cond.methodLink own index xi).before a0 Z = true) (wd : (Jvm.Cond.declares xi).before a0 Z = true) (wf : (Jvm.Cond.interfaceMethod xi.cls xi.cls xi.name xi.desc).before args s = true) (ws : (Jvm.Cond.selects C xi y).before a0 Z = true) (w2 : (Jvm.Cond.instanceMethod y).before a0 Z = true) (wp : (Jvm.Cond.publicMethod y).before a0 Z = true) (wu : (Jvm.Cond.unhidden C xi.name xi.desc).before a0 Z = true) (wc : (Jvm.Cond.castable C xi.cls).before a0 Z = true) (w3 : (Jvm.Cond.initialized y.cls).before a0 Z = true) (w4 : (Jvm.Cond.code y bytes maxL ret).before a0 Z = true) (eT : T.heap = h) (E : Exa Z h a C)
    (hM : MetFree l y (head1 [Jvm.Cond.code y bytes maxL ret] rm) (fun q U => q = (.ref a :: argsL).toArray ∧ Z.Warmed39 U.vm ∧ U.heap = h) (fun _ _ _ _ _ => True) (fun _ U o U' => ∃ v L, o = .returned v ∧ QQ v U'.heap L ∧ FrameEnd U o U' L rm.cells rm.slots))
    (hlen : ∀ sig, parseMethodDescriptor xi.desc = some sig → argsL.length = sig.parameters.length) (hd : decode c.code pc = .ok (.invokeinterface index count, 5))
    (kk : ∀ T' L v, Stand p l e R s m args below meth c T' (locs ++ L) (cells + rm.cells) (slots + rm.slots) → QQ v T'.heap L → EndsSo p e below Q T' (mkF m (pc + 5) Ls (v.toList ++ rest))) (hy : xi.cls ≠ "java/lang/invoke/MethodHandle" ∧ xi.cls ≠ "java/lang/invoke/VarHandle" := by decide) (hf : rm.frames + 1 ≤ R.frames := by decide) (hl : (rest.map fun v => v.category).sum + (maxL + 11) + rm.locals ≤ R.locals := by exact Nat.le_of_ble_eq_true rfl) (hc : cells + rm.cells ≤ R.cells := by decide) (hs : slots + rm.slots ≤ R.slots := by decide) : EndsSo p e below Q T (mkF m pc Ls (argsL.reverse ++ .ref a :: rest)) := by
  obtain ⟨cq, kq, qa, qb, qc⟩ := isOf hZ eT E
  obtain ⟨v, _, ⟨T', L, k, n⟩, -, X', ⟨Lc, hQ, l', y', z'⟩, s'⟩ := X.interfaceBack hx (xi := xi) (y := y) hO (mvT hZ w1) (mvT hZ wd) wf (mvT hZ ws) (mvT hZ w2) (mvT hZ wp) (mvT hZ wu) (mvT hZ wc) hy (backOf (W := (rest.map fun v => v.category).sum) hM hZ w4 w3 hf hl) qa qb qc (g := mkF m pc Ls (argsL.reverse ++ .ref a :: rest)) rfl hml (Steps.refl _) (argsL := argsL) (rest := rest) hlen rfl (by show 2 * 0 + _ ≤ _; omega) hd (fun _ _ => ⟨rfl, eT, hc, hs⟩)
  dsimp only [Pt.U, Pt.locs, Pt.cells, Pt.slots] at X' l' y' z' s' hQ
  subst l' y' z'
  exact f_run s' (kk T' Lc v X' hQ)
theorem f_up (X : Stand p l e R s m args below meth c T locs cells slots) (hx : p.tables.exec = Jvm.exec) (hZ : Z.Warmed39 s.vm) (hO : s.vm.findClass own = some m.cls) (hml : Ls.size = c.maxLocals) {xi : MethodName} {owner : String} (w1 : (Jvm.Cond.methodLink own index xi).before a0 Z = true) (wm : (Jvm.Cond.sameMethod xi.cls owner xi.name xi.desc).before a0 Z = true) (wd : (Jvm.Cond.declares ⟨owner, xi.name, xi.desc⟩).before a0 Z = true) (ws : (Jvm.Cond.selects C xi y).before a0 Z = true) (w2 : (Jvm.Cond.instanceMethod y).before a0 Z = true) (w3 : (Jvm.Cond.initialized y.cls).before a0 Z = true) (w4 : (Jvm.Cond.code y bytes maxL ret).before a0 Z = true) (eT : T.heap = h) (E : Exa Z h a C)
    (hM : MetFree l y (head1 [Jvm.Cond.code y bytes maxL ret] rm) (fun q U => q = (.ref a :: argsL).toArray ∧ Z.Warmed39 U.vm ∧ U.heap = h) (fun _ _ _ _ _ => True) (fun _ U o U' => ∃ v L, o = .returned v ∧ QQ v U'.heap L ∧ FrameEnd U o U' L rm.cells rm.slots))
    (hlen : ∀ sig, parseMethodDescriptor xi.desc = some sig → argsL.length = sig.parameters.length) (hd : decode c.code pc = .ok (.invokevirtual index, 3))
    (kk : ∀ T' L v, Stand p l e R s m args below meth c T' (locs ++ L) (cells + rm.cells) (slots + rm.slots) → QQ v T'.heap L → EndsSo p e below Q T' (mkF m (pc + 3) Ls (v.toList ++ rest))) (hy : owner ≠ "java/lang/invoke/MethodHandle" ∧ owner ≠ "java/lang/invoke/VarHandle" := by decide) (hf : rm.frames + 1 ≤ R.frames := by decide) (hl : (rest.map fun v => v.category).sum + (maxL + 11) + rm.locals ≤ R.locals := by exact Nat.le_of_ble_eq_true rfl) (hc : cells + rm.cells ≤ R.cells := by decide) (hs : slots + rm.slots ≤ R.slots := by decide) : EndsSo p e below Q T (mkF m pc Ls (argsL.reverse ++ .ref a :: rest)) := by
  obtain ⟨cq, kq, qa, qb, qc⟩ := isOf hZ eT E
  obtain ⟨v, _, ⟨T', L, k, n⟩, -, X', ⟨Lc, hQ, l', y', z'⟩, s'⟩ := X.virtualBackUp hx (owner := owner) (x := xi) (y := y) hO (mvT hZ w1) (mvT hZ wm) (mvT hZ wd) hy (mvT hZ ws) (mvT hZ w2) (backOf (W := (rest.map fun v => v.category).sum) hM hZ w4 w3 hf hl) qa qc (g := mkF m pc Ls (argsL.reverse ++ .ref a :: rest)) rfl hml (Steps.refl _) (argsL := argsL) (rest := rest) hlen rfl (by show 2 * 0 + _ ≤ _; omega) hd (fun _ _ => ⟨rfl, eT, hc, hs⟩)
  dsimp only [Pt.U, Pt.locs, Pt.cells, Pt.slots] at X' l' y' z' s' hQ
  subst l' y' z'
  exact f_run s' (kk T' Lc v X' hQ)
theorem f_cast1 (X : Stand p l e R s m args below meth c T locs cells slots) (hx : p.tables.exec = Jvm.exec) (hZ : Z.Warmed39 s.vm) (hO : s.vm.findClass own = some m.cls) (w1 : (Jvm.Cond.classLink own index C).before a0 Z = true) (eT : T.heap = h) (I : Ins Z h a C true) (hd : decode c.code pc = .ok (.checkcast index, 3))
    (k : ∀ T', Stand p l e R s m args below meth c T' locs cells slots → T'.heap = h → EndsSo p e below Q T' (mkF m (pc + 3) Ls (.ref a :: st))) : EndsSo p e below Q T (mkF m pc Ls (.ref a :: st)) := by
  obtain ⟨T', X', e', s'⟩ := castY X hx hZ hO w1 eT I (g := mkF m pc Ls (.ref a :: st)) rfl rfl hd
  exact f_by s' (k T' X' e')
end Kit4
abbrev cT : String := "com/example/gamesmith/gamesmith/arena/Tally"
abbrev cW : String := "com/example/gamesmith/gamesmith/arena/TallyAddPinLaw"
abbrev cR : String := "com/example/gamesmith/gamesmith/game/Result"
abbrev cA : String := "java/util/ArrayList"
theorem d0_0 : decode method_2_code 0 = .ok (.iload_n 0, 1) := by decide +kernel
theorem d0_1 : decode method_2_code 1 = .ok (.ldc 7, 2) := by decide +kernel
theorem d0_3 : decode method_2_code 3 = .ok (.iand, 1) := by decide +kernel
theorem d0_4 : decode method_2_code 4 = .ok (.iconst 3, 1) := by decide +kernel
theorem d0_5 : decode method_2_code 5 = .ok (.irem, 1) := by decide +kernel
theorem d0_6 : decode method_2_code 6 = .ok (.ireturn, 1) := by decide +kernel
theorem d1_0 : decode prog_6_method_1_code 0 = .ok (.aload_n 0, 1) := by decide +kernel
theorem d1_1 : decode prog_6_method_1_code 1 = .ok (.invokespecial 1, 3) := by decide +kernel
theorem d1_4 : decode prog_6_method_1_code 4 = .ok (.iload_n 1, 1) := by decide +kernel
theorem d1_5 : decode prog_6_method_1_code 5 = .ok (.iconst 1, 1) := by decide +kernel
theorem d1_6 : decode prog_6_method_1_code 6 = .ok (.if_icmp .ge 13, 3) := by decide +kernel
theorem d1_19 : decode prog_6_method_1_code 19 = .ok (.aload_n 0, 1) := by decide +kernel
theorem d1_20 : decode prog_6_method_1_code 20 = .ok (.iload_n 1, 1) := by decide +kernel
theorem d1_21 : decode prog_6_method_1_code 21 = .ok (.newarray .int, 2) := by decide +kernel
theorem d1_23 : decode prog_6_method_1_code 23 = .ok (.putfield 14, 3) := by decide +kernel
theorem d1_26 : decode prog_6_method_1_code 26 = .ok (.aload_n 0, 1) := by decide +kernel
theorem d1_27 : decode prog_6_method_1_code 27 = .ok (.iload_n 1, 1) := by decide +kernel
theorem d1_28 : decode prog_6_method_1_code 28 = .ok (.newarray .int, 2) := by decide +kernel
theorem d1_30 : decode prog_6_method_1_code 30 = .ok (.putfield 20, 3) := by decide +kernel
theorem d1_33 : decode prog_6_method_1_code 33 = .ok (.aload_n 0, 1) := by decide +kernel
theorem d1_34 : decode prog_6_method_1_code 34 = .ok (.iload_n 1, 1) := by decide +kernel
theorem d1_35 : decode prog_6_method_1_code 35 = .ok (.newarray .int, 2) := by decide +kernel
theorem d1_37 : decode prog_6_method_1_code 37 = .ok (.putfield 23, 3) := by decide +kernel
theorem d1_40 : decode prog_6_method_1_code 40 = .ok (.return_, 1) := by decide +kernel
theorem d3_0 : decode jdk_38_method_2_code 0 = .ok (.aload_n 0, 1) := by decide +kernel
theorem d3_1 : decode jdk_38_method_2_code 1 = .ok (.invokespecial 1, 3) := by decide +kernel
theorem d3_4 : decode jdk_38_method_2_code 4 = .ok (.aload_n 0, 1) := by decide +kernel
theorem d3_5 : decode jdk_38_method_2_code 5 = .ok (.getstatic 39, 3) := by decide +kernel
theorem d3_8 : decode jdk_38_method_2_code 8 = .ok (.putfield 9, 3) := by decide +kernel
theorem d3_11 : decode jdk_38_method_2_code 11 = .ok (.return_, 1) := by decide +kernel
theorem d4_0 : decode jdk_39_method_1_code 0 = .ok (.aload_n 0, 1) := by decide +kernel
theorem d4_1 : decode jdk_39_method_1_code 1 = .ok (.invokespecial 1, 3) := by decide +kernel
theorem d4_4 : decode jdk_39_method_1_code 4 = .ok (.aload_n 0, 1) := by decide +kernel
theorem d4_5 : decode jdk_39_method_1_code 5 = .ok (.iconst 0, 1) := by decide +kernel
theorem d4_6 : decode jdk_39_method_1_code 6 = .ok (.putfield 7, 3) := by decide +kernel
theorem d4_9 : decode jdk_39_method_1_code 9 = .ok (.return_, 1) := by decide +kernel
theorem d5_0 : decode jdk_22_method_1_code 0 = .ok (.aload_n 0, 1) := by decide +kernel
theorem d5_1 : decode jdk_22_method_1_code 1 = .ok (.invokespecial 1, 3) := by decide +kernel
theorem d5_4 : decode jdk_22_method_1_code 4 = .ok (.return_, 1) := by decide +kernel
theorem d6_0 : decode method_3_code 0 = .ok (.iload_n 0, 1) := by decide +kernel
theorem d6_1 : decode method_3_code 1 = .ok (.ifCond .ne 7, 3) := by decide +kernel
theorem d6_4 : decode method_3_code 4 = .ok (.getstatic 8, 3) := by decide +kernel
theorem d6_7 : decode method_3_code 7 = .ok (.areturn, 1) := by decide +kernel
theorem d6_8 : decode method_3_code 8 = .ok (.iload_n 0, 1) := by decide +kernel
theorem d6_9 : decode method_3_code 9 = .ok (.iconst 1, 1) := by decide +kernel
theorem d6_10 : decode method_3_code 10 = .ok (.if_icmp .ne 7, 3) := by decide +kernel
theorem d6_13 : decode method_3_code 13 = .ok (.getstatic 14, 3) := by decide +kernel
theorem d6_16 : decode method_3_code 16 = .ok (.areturn, 1) := by decide +kernel
theorem d6_17 : decode method_3_code 17 = .ok (.getstatic 17, 3) := by decide +kernel
theorem d6_20 : decode method_3_code 20 = .ok (.areturn, 1) := by decide +kernel
theorem d7_0 : decode jdk_38_method_25_code 0 = .ok (.aload_n 0, 1) := by decide +kernel
theorem d7_1 : decode jdk_38_method_25_code 1 = .ok (.dup, 1) := by decide +kernel
theorem d7_2 : decode jdk_38_method_25_code 2 = .ok (.getfield 63, 3) := by decide +kernel
theorem d7_5 : decode jdk_38_method_25_code 5 = .ok (.iconst 1, 1) := by decide +kernel
theorem d7_6 : decode jdk_38_method_25_code 6 = .ok (.iadd, 1) := by decide +kernel
theorem d7_7 : decode jdk_38_method_25_code 7 = .ok (.putfield 63, 3) := by decide +kernel
theorem d7_10 : decode jdk_38_method_25_code 10 = .ok (.aload_n 0, 1) := by decide +kernel
theorem d7_11 : decode jdk_38_method_25_code 11 = .ok (.aload_n 1, 1) := by decide +kernel
theorem d7_12 : decode jdk_38_method_25_code 12 = .ok (.aload_n 0, 1) := by decide +kernel
theorem d7_13 : decode jdk_38_method_25_code 13 = .ok (.getfield 9, 3) := by decide +kernel
theorem d7_16 : decode jdk_38_method_25_code 16 = .ok (.aload_n 0, 1) := by decide +kernel
theorem d7_17 : decode jdk_38_method_25_code 17 = .ok (.getfield 48, 3) := by decide +kernel
theorem d7_20 : decode jdk_38_method_25_code 20 = .ok (.invokevirtual 131, 3) := by decide +kernel
theorem d7_23 : decode jdk_38_method_25_code 23 = .ok (.iconst 1, 1) := by decide +kernel
theorem d7_24 : decode jdk_38_method_25_code 24 = .ok (.ireturn, 1) := by decide +kernel
theorem d8_0 : decode jdk_38_method_24_code 0 = .ok (.iload_n 3, 1) := by decide +kernel
theorem d8_1 : decode jdk_38_method_24_code 1 = .ok (.aload_n 2, 1) := by decide +kernel
theorem d8_2 : decode jdk_38_method_24_code 2 = .ok (.arraylength, 1) := by decide +kernel
theorem d8_3 : decode jdk_38_method_24_code 3 = .ok (.if_icmp .ne 8, 3) := by decide +kernel
theorem d8_6 : decode jdk_38_method_24_code 6 = .ok (.aload_n 0, 1) := by decide +kernel
theorem d8_7 : decode jdk_38_method_24_code 7 = .ok (.invokevirtual 129, 3) := by decide +kernel
theorem d8_10 : decode jdk_38_method_24_code 10 = .ok (.astore_n 2, 1) := by decide +kernel
theorem d8_11 : decode jdk_38_method_24_code 11 = .ok (.aload_n 2, 1) := by decide +kernel
theorem d8_12 : decode jdk_38_method_24_code 12 = .ok (.iload_n 3, 1) := by decide +kernel
theorem d8_13 : decode jdk_38_method_24_code 13 = .ok (.aload_n 1, 1) := by decide +kernel
theorem d8_14 : decode jdk_38_method_24_code 14 = .ok (.aastore, 1) := by decide +kernel
theorem d8_15 : decode jdk_38_method_24_code 15 = .ok (.aload_n 0, 1) := by decide +kernel
theorem d8_16 : decode jdk_38_method_24_code 16 = .ok (.iload_n 3, 1) := by decide +kernel
theorem d8_17 : decode jdk_38_method_24_code 17 = .ok (.iconst 1, 1) := by decide +kernel
theorem d8_18 : decode jdk_38_method_24_code 18 = .ok (.iadd, 1) := by decide +kernel
theorem d8_19 : decode jdk_38_method_24_code 19 = .ok (.putfield 48, 3) := by decide +kernel
theorem d8_22 : decode jdk_38_method_24_code 22 = .ok (.return_, 1) := by decide +kernel
theorem d9_0 : decode jdk_38_method_7_code 0 = .ok (.aload_n 0, 1) := by decide +kernel
theorem d9_1 : decode jdk_38_method_7_code 1 = .ok (.aload_n 0, 1) := by decide +kernel
theorem d9_2 : decode jdk_38_method_7_code 2 = .ok (.getfield 48, 3) := by decide +kernel
theorem d9_5 : decode jdk_38_method_7_code 5 = .ok (.iconst 1, 1) := by decide +kernel
theorem d9_6 : decode jdk_38_method_7_code 6 = .ok (.iadd, 1) := by decide +kernel
theorem d9_7 : decode jdk_38_method_7_code 7 = .ok (.invokevirtual 69, 3) := by decide +kernel
theorem d9_10 : decode jdk_38_method_7_code 10 = .ok (.areturn, 1) := by decide +kernel
theorem d10_0 : decode jdk_38_method_6_code 0 = .ok (.aload_n 0, 1) := by decide +kernel
theorem d10_1 : decode jdk_38_method_6_code 1 = .ok (.getfield 9, 3) := by decide +kernel
theorem d10_4 : decode jdk_38_method_6_code 4 = .ok (.arraylength, 1) := by decide +kernel
theorem d10_5 : decode jdk_38_method_6_code 5 = .ok (.istore_n 2, 1) := by decide +kernel
theorem d10_6 : decode jdk_38_method_6_code 6 = .ok (.iload_n 2, 1) := by decide +kernel
theorem d10_7 : decode jdk_38_method_6_code 7 = .ok (.ifCond .gt 13, 3) := by decide +kernel
theorem d10_10 : decode jdk_38_method_6_code 10 = .ok (.aload_n 0, 1) := by decide +kernel
theorem d10_11 : decode jdk_38_method_6_code 11 = .ok (.getfield 9, 3) := by decide +kernel
theorem d10_14 : decode jdk_38_method_6_code 14 = .ok (.getstatic 39, 3) := by decide +kernel
theorem d10_17 : decode jdk_38_method_6_code 17 = .ok (.if_acmp .eq 28, 3) := by decide +kernel
theorem d10_45 : decode jdk_38_method_6_code 45 = .ok (.aload_n 0, 1) := by decide +kernel
theorem d10_46 : decode jdk_38_method_6_code 46 = .ok (.bipush 10, 2) := by decide +kernel
theorem d10_48 : decode jdk_38_method_6_code 48 = .ok (.iload_n 1, 1) := by decide +kernel
theorem d10_49 : decode jdk_38_method_6_code 49 = .ok (.invokestatic 79, 3) := by decide +kernel
theorem d10_52 : decode jdk_38_method_6_code 52 = .ok (.anewarray 7, 3) := by decide +kernel
theorem d10_55 : decode jdk_38_method_6_code 55 = .ok (.dup_x1, 1) := by decide +kernel
theorem d10_56 : decode jdk_38_method_6_code 56 = .ok (.putfield 9, 3) := by decide +kernel
theorem d10_59 : decode jdk_38_method_6_code 59 = .ok (.areturn, 1) := by decide +kernel
theorem d11_0 : decode jdk_29_method_65_code 0 = .ok (.iload_n 0, 1) := by decide +kernel
theorem d11_1 : decode jdk_29_method_65_code 1 = .ok (.iload_n 1, 1) := by decide +kernel
theorem d11_2 : decode jdk_29_method_65_code 2 = .ok (.if_icmp .lt 7, 3) := by decide +kernel
theorem d11_5 : decode jdk_29_method_65_code 5 = .ok (.iload_n 0, 1) := by decide +kernel
theorem d11_6 : decode jdk_29_method_65_code 6 = .ok (.goto 4, 3) := by decide +kernel
theorem d11_10 : decode jdk_29_method_65_code 10 = .ok (.ireturn, 1) := by decide +kernel
theorem d12_0 : decode prog_6_method_2_code 0 = .ok (.aload_n 1, 1) := by decide +kernel
theorem d12_1 : decode prog_6_method_2_code 1 = .ok (.invokeinterface 26 1, 5) := by decide +kernel
theorem d12_6 : decode prog_6_method_2_code 6 = .ok (.aload_n 0, 1) := by decide +kernel
theorem d12_7 : decode prog_6_method_2_code 7 = .ok (.getfield 14, 3) := by decide +kernel
theorem d12_10 : decode prog_6_method_2_code 10 = .ok (.arraylength, 1) := by decide +kernel
theorem d12_11 : decode prog_6_method_2_code 11 = .ok (.if_icmp .eq 27, 3) := by decide +kernel
theorem d12_38 : decode prog_6_method_2_code 38 = .ok (.iconst 0, 1) := by decide +kernel
theorem d12_39 : decode prog_6_method_2_code 39 = .ok (.istore_n 2, 1) := by decide +kernel
theorem d12_40 : decode prog_6_method_2_code 40 = .ok (.iconst 0, 1) := by decide +kernel
theorem d12_41 : decode prog_6_method_2_code 41 = .ok (.istore_n 3, 1) := by decide +kernel
theorem d12_42 : decode prog_6_method_2_code 42 = .ok (.iload_n 3, 1) := by decide +kernel
theorem d12_43 : decode prog_6_method_2_code 43 = .ok (.aload_n 1, 1) := by decide +kernel
theorem d12_44 : decode prog_6_method_2_code 44 = .ok (.invokeinterface 26 1, 5) := by decide +kernel
theorem d12_49 : decode prog_6_method_2_code 49 = .ok (.if_icmp .ge 92, 3) := by decide +kernel
theorem d12_52 : decode prog_6_method_2_code 52 = .ok (.getstatic 36, 3) := by decide +kernel
theorem d12_55 : decode prog_6_method_2_code 55 = .ok (.aload_n 1, 1) := by decide +kernel
theorem d12_56 : decode prog_6_method_2_code 56 = .ok (.iload_n 3, 1) := by decide +kernel
theorem d12_57 : decode prog_6_method_2_code 57 = .ok (.invokeinterface 41 2, 5) := by decide +kernel
theorem d12_62 : decode prog_6_method_2_code 62 = .ok (.checkcast 45, 3) := by decide +kernel
theorem d12_65 : decode prog_6_method_2_code 65 = .ok (.invokevirtual 47, 3) := by decide +kernel
theorem d12_68 : decode prog_6_method_2_code 68 = .ok (.iaload, 1) := by decide +kernel
theorem d12_69 : decode prog_6_method_2_code 69 = .ok (.tableswitch 66 1 3 #[27, 40, 56], 27) := by decide +kernel
theorem d12_96 : decode prog_6_method_2_code 96 = .ok (.aload_n 0, 1) := by decide +kernel
theorem d12_97 : decode prog_6_method_2_code 97 = .ok (.getfield 14, 3) := by decide +kernel
theorem d12_100 : decode prog_6_method_2_code 100 = .ok (.iload_n 3, 1) := by decide +kernel
theorem d12_101 : decode prog_6_method_2_code 101 = .ok (.dup2, 1) := by decide +kernel
theorem d12_102 : decode prog_6_method_2_code 102 = .ok (.iaload, 1) := by decide +kernel
theorem d12_103 : decode prog_6_method_2_code 103 = .ok (.iconst 1, 1) := by decide +kernel
theorem d12_104 : decode prog_6_method_2_code 104 = .ok (.iadd, 1) := by decide +kernel
theorem d12_105 : decode prog_6_method_2_code 105 = .ok (.iastore, 1) := by decide +kernel
theorem d12_106 : decode prog_6_method_2_code 106 = .ok (.goto 29, 3) := by decide +kernel
theorem d12_109 : decode prog_6_method_2_code 109 = .ok (.aload_n 0, 1) := by decide +kernel
theorem d12_110 : decode prog_6_method_2_code 110 = .ok (.getfield 20, 3) := by decide +kernel
theorem d12_113 : decode prog_6_method_2_code 113 = .ok (.iload_n 3, 1) := by decide +kernel
theorem d12_114 : decode prog_6_method_2_code 114 = .ok (.dup2, 1) := by decide +kernel
theorem d12_115 : decode prog_6_method_2_code 115 = .ok (.iaload, 1) := by decide +kernel
theorem d12_116 : decode prog_6_method_2_code 116 = .ok (.iconst 1, 1) := by decide +kernel
theorem d12_117 : decode prog_6_method_2_code 117 = .ok (.iadd, 1) := by decide +kernel
theorem d12_118 : decode prog_6_method_2_code 118 = .ok (.iastore, 1) := by decide +kernel
theorem d12_119 : decode prog_6_method_2_code 119 = .ok (.iinc 2 1, 3) := by decide +kernel
theorem d12_122 : decode prog_6_method_2_code 122 = .ok (.goto 13, 3) := by decide +kernel
theorem d12_125 : decode prog_6_method_2_code 125 = .ok (.aload_n 0, 1) := by decide +kernel
theorem d12_126 : decode prog_6_method_2_code 126 = .ok (.getfield 23, 3) := by decide +kernel
theorem d12_129 : decode prog_6_method_2_code 129 = .ok (.iload_n 3, 1) := by decide +kernel
theorem d12_130 : decode prog_6_method_2_code 130 = .ok (.dup2, 1) := by decide +kernel
theorem d12_131 : decode prog_6_method_2_code 131 = .ok (.iaload, 1) := by decide +kernel
theorem d12_132 : decode prog_6_method_2_code 132 = .ok (.iconst 1, 1) := by decide +kernel
theorem d12_133 : decode prog_6_method_2_code 133 = .ok (.iadd, 1) := by decide +kernel
theorem d12_134 : decode prog_6_method_2_code 134 = .ok (.iastore, 1) := by decide +kernel
theorem d12_135 : decode prog_6_method_2_code 135 = .ok (.iinc 3 1, 3) := by decide +kernel
theorem d12_138 : decode prog_6_method_2_code 138 = .ok (.goto (-96), 3) := by decide +kernel
theorem d12_141 : decode prog_6_method_2_code 141 = .ok (.iload_n 2, 1) := by decide +kernel
theorem d12_142 : decode prog_6_method_2_code 142 = .ok (.aload_n 1, 1) := by decide +kernel
theorem d12_143 : decode prog_6_method_2_code 143 = .ok (.invokeinterface 26 1, 5) := by decide +kernel
theorem d12_148 : decode prog_6_method_2_code 148 = .ok (.if_icmp .ne 13, 3) := by decide +kernel
theorem d12_151 : decode prog_6_method_2_code 151 = .ok (.aload_n 0, 1) := by decide +kernel
theorem d12_152 : decode prog_6_method_2_code 152 = .ok (.dup, 1) := by decide +kernel
theorem d12_153 : decode prog_6_method_2_code 153 = .ok (.getfield 50, 3) := by decide +kernel
theorem d12_156 : decode prog_6_method_2_code 156 = .ok (.iconst 1, 1) := by decide +kernel
theorem d12_157 : decode prog_6_method_2_code 157 = .ok (.iadd, 1) := by decide +kernel
theorem d12_158 : decode prog_6_method_2_code 158 = .ok (.putfield 50, 3) := by decide +kernel
theorem d12_161 : decode prog_6_method_2_code 161 = .ok (.aload_n 0, 1) := by decide +kernel
theorem d12_162 : decode prog_6_method_2_code 162 = .ok (.dup, 1) := by decide +kernel
theorem d12_163 : decode prog_6_method_2_code 163 = .ok (.getfield 54, 3) := by decide +kernel
theorem d12_166 : decode prog_6_method_2_code 166 = .ok (.iconst 1, 1) := by decide +kernel
theorem d12_167 : decode prog_6_method_2_code 167 = .ok (.iadd, 1) := by decide +kernel
theorem d12_168 : decode prog_6_method_2_code 168 = .ok (.putfield 54, 3) := by decide +kernel
theorem d12_171 : decode prog_6_method_2_code 171 = .ok (.return_, 1) := by decide +kernel
theorem d13_0 : decode jdk_38_method_8_code 0 = .ok (.aload_n 0, 1) := by decide +kernel
theorem d13_1 : decode jdk_38_method_8_code 1 = .ok (.getfield 48, 3) := by decide +kernel
theorem d13_4 : decode jdk_38_method_8_code 4 = .ok (.ireturn, 1) := by decide +kernel
theorem d14_0 : decode jdk_38_method_20_code 0 = .ok (.iload_n 1, 1) := by decide +kernel
theorem d14_1 : decode jdk_38_method_20_code 1 = .ok (.aload_n 0, 1) := by decide +kernel
theorem d14_2 : decode jdk_38_method_20_code 2 = .ok (.getfield 48, 3) := by decide +kernel
theorem d14_5 : decode jdk_38_method_20_code 5 = .ok (.invokestatic 118, 3) := by decide +kernel
theorem d14_8 : decode jdk_38_method_20_code 8 = .ok (.pop, 1) := by decide +kernel
theorem d14_9 : decode jdk_38_method_20_code 9 = .ok (.aload_n 0, 1) := by decide +kernel
theorem d14_10 : decode jdk_38_method_20_code 10 = .ok (.iload_n 1, 1) := by decide +kernel
theorem d14_11 : decode jdk_38_method_20_code 11 = .ok (.invokevirtual 123, 3) := by decide +kernel
theorem d14_14 : decode jdk_38_method_20_code 14 = .ok (.areturn, 1) := by decide +kernel
theorem d15_0 : decode jdk_31_method_17_code 0 = .ok (.iload_n 0, 1) := by decide +kernel
theorem d15_1 : decode jdk_31_method_17_code 1 = .ok (.iload_n 1, 1) := by decide +kernel
theorem d15_2 : decode jdk_31_method_17_code 2 = .ok (.aconst_null, 1) := by decide +kernel
theorem d15_3 : decode jdk_31_method_17_code 3 = .ok (.invokestatic 105, 3) := by decide +kernel
theorem d15_6 : decode jdk_31_method_17_code 6 = .ok (.ireturn, 1) := by decide +kernel
theorem d16_0 : decode jdk_41_method_11_code 0 = .ok (.iload_n 0, 1) := by decide +kernel
theorem d16_1 : decode jdk_41_method_11_code 1 = .ok (.ifCond .lt 8, 3) := by decide +kernel
theorem d16_4 : decode jdk_41_method_11_code 4 = .ok (.iload_n 0, 1) := by decide +kernel
theorem d16_5 : decode jdk_41_method_11_code 5 = .ok (.iload_n 1, 1) := by decide +kernel
theorem d16_6 : decode jdk_41_method_11_code 6 = .ok (.if_icmp .lt 10, 3) := by decide +kernel
theorem d16_16 : decode jdk_41_method_11_code 16 = .ok (.iload_n 0, 1) := by decide +kernel
theorem d16_17 : decode jdk_41_method_11_code 17 = .ok (.ireturn, 1) := by decide +kernel
theorem d17_0 : decode jdk_38_method_18_code 0 = .ok (.aload_n 0, 1) := by decide +kernel
theorem d17_1 : decode jdk_38_method_18_code 1 = .ok (.getfield 9, 3) := by decide +kernel
theorem d17_4 : decode jdk_38_method_18_code 4 = .ok (.iload_n 1, 1) := by decide +kernel
theorem d17_5 : decode jdk_38_method_18_code 5 = .ok (.aaload, 1) := by decide +kernel
theorem d17_6 : decode jdk_38_method_18_code 6 = .ok (.areturn, 1) := by decide +kernel
theorem d18_0 : decode jdk_37_method_2_code 0 = .ok (.aload_n 0, 1) := by decide +kernel
theorem d18_1 : decode jdk_37_method_2_code 1 = .ok (.getfield 7, 3) := by decide +kernel
theorem d18_4 : decode jdk_37_method_2_code 4 = .ok (.ireturn, 1) := by decide +kernel
theorem d19_0 : decode prog_6_method_3_code 0 = .ok (.iconst 0, 1) := by decide +kernel
theorem d19_1 : decode prog_6_method_3_code 1 = .ok (.istore_n 2, 1) := by decide +kernel
theorem d19_2 : decode prog_6_method_3_code 2 = .ok (.iload_n 2, 1) := by decide +kernel
theorem d19_3 : decode prog_6_method_3_code 3 = .ok (.aload_n 0, 1) := by decide +kernel
theorem d19_4 : decode prog_6_method_3_code 4 = .ok (.getfield 14, 3) := by decide +kernel
theorem d19_7 : decode prog_6_method_3_code 7 = .ok (.arraylength, 1) := by decide +kernel
theorem d19_8 : decode prog_6_method_3_code 8 = .ok (.if_icmp .ge 54, 3) := by decide +kernel
theorem d19_11 : decode prog_6_method_3_code 11 = .ok (.aload_n 0, 1) := by decide +kernel
theorem d19_12 : decode prog_6_method_3_code 12 = .ok (.getfield 14, 3) := by decide +kernel
theorem d19_15 : decode prog_6_method_3_code 15 = .ok (.iload_n 2, 1) := by decide +kernel
theorem d19_16 : decode prog_6_method_3_code 16 = .ok (.dup2, 1) := by decide +kernel
theorem d19_17 : decode prog_6_method_3_code 17 = .ok (.iaload, 1) := by decide +kernel
theorem d19_18 : decode prog_6_method_3_code 18 = .ok (.aload_n 1, 1) := by decide +kernel
theorem d19_19 : decode prog_6_method_3_code 19 = .ok (.getfield 14, 3) := by decide +kernel
theorem d19_22 : decode prog_6_method_3_code 22 = .ok (.iload_n 2, 1) := by decide +kernel
theorem d19_23 : decode prog_6_method_3_code 23 = .ok (.iaload, 1) := by decide +kernel
theorem d19_24 : decode prog_6_method_3_code 24 = .ok (.iadd, 1) := by decide +kernel
theorem d19_25 : decode prog_6_method_3_code 25 = .ok (.iastore, 1) := by decide +kernel
theorem d19_26 : decode prog_6_method_3_code 26 = .ok (.aload_n 0, 1) := by decide +kernel
theorem d19_27 : decode prog_6_method_3_code 27 = .ok (.getfield 20, 3) := by decide +kernel
theorem d19_30 : decode prog_6_method_3_code 30 = .ok (.iload_n 2, 1) := by decide +kernel
theorem d19_31 : decode prog_6_method_3_code 31 = .ok (.dup2, 1) := by decide +kernel
theorem d19_32 : decode prog_6_method_3_code 32 = .ok (.iaload, 1) := by decide +kernel
theorem d19_33 : decode prog_6_method_3_code 33 = .ok (.aload_n 1, 1) := by decide +kernel
theorem d19_34 : decode prog_6_method_3_code 34 = .ok (.getfield 20, 3) := by decide +kernel
theorem d19_37 : decode prog_6_method_3_code 37 = .ok (.iload_n 2, 1) := by decide +kernel
theorem d19_38 : decode prog_6_method_3_code 38 = .ok (.iaload, 1) := by decide +kernel
theorem d19_39 : decode prog_6_method_3_code 39 = .ok (.iadd, 1) := by decide +kernel
theorem d19_40 : decode prog_6_method_3_code 40 = .ok (.iastore, 1) := by decide +kernel
theorem d19_41 : decode prog_6_method_3_code 41 = .ok (.aload_n 0, 1) := by decide +kernel
theorem d19_42 : decode prog_6_method_3_code 42 = .ok (.getfield 23, 3) := by decide +kernel
theorem d19_45 : decode prog_6_method_3_code 45 = .ok (.iload_n 2, 1) := by decide +kernel
theorem d19_46 : decode prog_6_method_3_code 46 = .ok (.dup2, 1) := by decide +kernel
theorem d19_47 : decode prog_6_method_3_code 47 = .ok (.iaload, 1) := by decide +kernel
theorem d19_48 : decode prog_6_method_3_code 48 = .ok (.aload_n 1, 1) := by decide +kernel
theorem d19_49 : decode prog_6_method_3_code 49 = .ok (.getfield 23, 3) := by decide +kernel
theorem d19_52 : decode prog_6_method_3_code 52 = .ok (.iload_n 2, 1) := by decide +kernel
theorem d19_53 : decode prog_6_method_3_code 53 = .ok (.iaload, 1) := by decide +kernel
theorem d19_54 : decode prog_6_method_3_code 54 = .ok (.iadd, 1) := by decide +kernel
theorem d19_55 : decode prog_6_method_3_code 55 = .ok (.iastore, 1) := by decide +kernel
theorem d19_56 : decode prog_6_method_3_code 56 = .ok (.iinc 2 1, 3) := by decide +kernel
theorem d19_59 : decode prog_6_method_3_code 59 = .ok (.goto (-57), 3) := by decide +kernel
theorem d19_62 : decode prog_6_method_3_code 62 = .ok (.aload_n 0, 1) := by decide +kernel
theorem d19_63 : decode prog_6_method_3_code 63 = .ok (.dup, 1) := by decide +kernel
theorem d19_64 : decode prog_6_method_3_code 64 = .ok (.getfield 54, 3) := by decide +kernel
theorem d19_67 : decode prog_6_method_3_code 67 = .ok (.aload_n 1, 1) := by decide +kernel
theorem d19_68 : decode prog_6_method_3_code 68 = .ok (.getfield 54, 3) := by decide +kernel
theorem d19_71 : decode prog_6_method_3_code 71 = .ok (.iadd, 1) := by decide +kernel
theorem d19_72 : decode prog_6_method_3_code 72 = .ok (.putfield 54, 3) := by decide +kernel
theorem d19_75 : decode prog_6_method_3_code 75 = .ok (.aload_n 0, 1) := by decide +kernel
theorem d19_76 : decode prog_6_method_3_code 76 = .ok (.dup, 1) := by decide +kernel
theorem d19_77 : decode prog_6_method_3_code 77 = .ok (.getfield 50, 3) := by decide +kernel
theorem d19_80 : decode prog_6_method_3_code 80 = .ok (.aload_n 1, 1) := by decide +kernel
theorem d19_81 : decode prog_6_method_3_code 81 = .ok (.getfield 50, 3) := by decide +kernel
theorem d19_84 : decode prog_6_method_3_code 84 = .ok (.iadd, 1) := by decide +kernel
theorem d19_85 : decode prog_6_method_3_code 85 = .ok (.putfield 50, 3) := by decide +kernel
theorem d19_88 : decode prog_6_method_3_code 88 = .ok (.return_, 1) := by decide +kernel
theorem d20_0 : decode method_4_code 0 = .ok (.iload_n 0, 1) := by decide +kernel
theorem d20_1 : decode method_4_code 1 = .ok (.iload_n 1, 1) := by decide +kernel
theorem d20_2 : decode method_4_code 2 = .ok (.if_icmp .ne 7, 3) := by decide +kernel
theorem d20_5 : decode method_4_code 5 = .ok (.iconst 1, 1) := by decide +kernel
theorem d20_6 : decode method_4_code 6 = .ok (.goto 4, 3) := by decide +kernel
theorem d20_9 : decode method_4_code 9 = .ok (.iconst 0, 1) := by decide +kernel
theorem d20_10 : decode method_4_code 10 = .ok (.ireturn, 1) := by decide +kernel
theorem d21_0 : decode prog_6_method_4_code 0 = .ok (.aload_n 0, 1) := by decide +kernel
theorem d21_1 : decode prog_6_method_4_code 1 = .ok (.getfield 54, 3) := by decide +kernel
theorem d21_4 : decode prog_6_method_4_code 4 = .ok (.ireturn, 1) := by decide +kernel
theorem d22_0 : decode prog_6_method_5_code 0 = .ok (.aload_n 0, 1) := by decide +kernel
theorem d22_1 : decode prog_6_method_5_code 1 = .ok (.getfield 50, 3) := by decide +kernel
theorem d22_4 : decode prog_6_method_5_code 4 = .ok (.ireturn, 1) := by decide +kernel
theorem d23_0 : decode prog_6_method_6_code 0 = .ok (.aload_n 0, 1) := by decide +kernel
theorem d23_1 : decode prog_6_method_6_code 1 = .ok (.getfield 14, 3) := by decide +kernel
theorem d23_4 : decode prog_6_method_6_code 4 = .ok (.iload_n 1, 1) := by decide +kernel
theorem d23_5 : decode prog_6_method_6_code 5 = .ok (.iaload, 1) := by decide +kernel
theorem d23_6 : decode prog_6_method_6_code 6 = .ok (.ireturn, 1) := by decide +kernel
theorem d24_0 : decode prog_6_method_8_code 0 = .ok (.aload_n 0, 1) := by decide +kernel
theorem d24_1 : decode prog_6_method_8_code 1 = .ok (.getfield 23, 3) := by decide +kernel
theorem d24_4 : decode prog_6_method_8_code 4 = .ok (.iload_n 1, 1) := by decide +kernel
theorem d24_5 : decode prog_6_method_8_code 5 = .ok (.iaload, 1) := by decide +kernel
theorem d24_6 : decode prog_6_method_8_code 6 = .ok (.ireturn, 1) := by decide +kernel
theorem d25_0 : decode prog_6_method_7_code 0 = .ok (.aload_n 0, 1) := by decide +kernel
theorem d25_1 : decode prog_6_method_7_code 1 = .ok (.getfield 20, 3) := by decide +kernel
theorem d25_4 : decode prog_6_method_7_code 4 = .ok (.iload_n 1, 1) := by decide +kernel
theorem d25_5 : decode prog_6_method_7_code 5 = .ok (.iaload, 1) := by decide +kernel
theorem d25_6 : decode prog_6_method_7_code 6 = .ok (.ireturn, 1) := by decide +kernel
theorem pn1 : plainName cT = true := by first | (simp [plainName, overriddenIn]; done) | decide +kernel
theorem pn26 : plainName cW = true := by first | (simp [plainName, overriddenIn]; done) | decide +kernel
theorem pn3 : plainName cA = true := by first | (simp [plainName, overriddenIn]; done) | decide +kernel
theorem pn23 : plainName cT = true := by first | (simp [plainName, overriddenIn]; done) | decide +kernel
theorem pn8 : plainName cA = true := by first | (simp [plainName, overriddenIn]; done) | decide +kernel
theorem pn24 : plainName cT = true := by first | (simp [plainName, overriddenIn]; done) | decide +kernel
theorem pn20 : plainName cW = true := by first | (simp [plainName, overriddenIn]; done) | decide +kernel
theorem pn7 : plainName cA = true := by first | (simp [plainName, overriddenIn]; done) | decide +kernel
theorem pn13 : plainName cA = true := by first | (simp [plainName, overriddenIn]; done) | decide +kernel
theorem pn5 : plainName "java/util/AbstractCollection" = true := by first | (simp [plainName, overriddenIn]; done) | decide +kernel
theorem pn10 : plainName cA = true := by first | (simp [plainName, overriddenIn]; done) | decide +kernel
theorem pn17 : plainName cA = true := by first | (simp [plainName, overriddenIn]; done) | decide +kernel
theorem pn4 : plainName "java/util/AbstractList" = true := by first | (simp [plainName, overriddenIn]; done) | decide +kernel
theorem pn19 : plainName cT = true := by first | (simp [plainName, overriddenIn]; done) | decide +kernel
theorem pn9 : plainName cA = true := by first | (simp [plainName, overriddenIn]; done) | decide +kernel
theorem pn14 : plainName cA = true := by first | (simp [plainName, overriddenIn]; done) | decide +kernel
theorem pn12 : plainName cT = true := by first | (simp [plainName, overriddenIn]; done) | decide +kernel
theorem pn25 : plainName cT = true := by first | (simp [plainName, overriddenIn]; done) | decide +kernel
theorem pn22 : plainName cT = true := by first | (simp [plainName, overriddenIn]; done) | decide +kernel
theorem pn18 : plainName "java/lang/Enum" = true := by first | (simp [plainName, overriddenIn]; done) | decide +kernel
theorem pn0 : plainName cW = true := by first | (simp [plainName, overriddenIn]; done) | decide +kernel
theorem pn15 : plainName "java/util/Objects" = true := by first | (simp [plainName, overriddenIn]; done) | decide +kernel
theorem pn21 : plainName cT = true := by first | (simp [plainName, overriddenIn]; done) | decide +kernel
theorem pn6 : plainName cW = true := by first | (simp [plainName, overriddenIn]; done) | decide +kernel
theorem pn16 : plainName "jdk/internal/util/Preconditions" = true := by first | (simp [plainName, overriddenIn]; done) | decide +kernel
theorem pd0 : parseMethodDescriptor "(I)I" = some ⟨[.int], some .int⟩ := by decide +kernel
theorem pd1 : parseMethodDescriptor "(I)V" = some ⟨[.int], none⟩ := by decide +kernel
theorem pd2 : parseMethodDescriptor "()V" = some ⟨[], none⟩ := by decide +kernel
theorem pd3 : parseMethodDescriptor "(I)Lcom/example/gamesmith/gamesmith/game/Result;" = some ⟨[.int], some (.object cR)⟩ := by decide +kernel
theorem pd4 : parseMethodDescriptor "(II)I" = some ⟨[.int, .int], some .int⟩ := by decide +kernel
theorem pd5 : parseMethodDescriptor "(I)[Ljava/lang/Object;" = some ⟨[.int], some (.array (.object "java/lang/Object"))⟩ := by decide +kernel
theorem pd6 : parseMethodDescriptor "()[Ljava/lang/Object;" = some ⟨[], some (.array (.object "java/lang/Object"))⟩ := by decide +kernel
theorem pd7 : parseMethodDescriptor "(Ljava/lang/Object;[Ljava/lang/Object;I)V" = some ⟨[(.object "java/lang/Object"), (.array (.object "java/lang/Object")), .int], none⟩ := by decide +kernel
theorem pd8 : parseMethodDescriptor "(Ljava/lang/Object;)Z" = some ⟨[(.object "java/lang/Object")], some .boolean⟩ := by decide +kernel
theorem pd9 : parseMethodDescriptor "()I" = some ⟨[], some .int⟩ := by decide +kernel
theorem pd10 : parseMethodDescriptor "(IILjava/util/function/BiFunction;)I" = some ⟨[.int, .int, (.object "java/util/function/BiFunction")], some .int⟩ := by decide +kernel
theorem pd11 : parseMethodDescriptor "(I)Ljava/lang/Object;" = some ⟨[.int], some (.object "java/lang/Object")⟩ := by decide +kernel
theorem pd12 : parseMethodDescriptor "(Ljava/util/List;)V" = some ⟨[(.object "java/util/List")], none⟩ := by decide +kernel
theorem pd13 : parseMethodDescriptor "(Lcom/example/gamesmith/gamesmith/arena/Tally;)V" = some ⟨[(.object cT)], none⟩ := by decide +kernel
abbrev y6 : MethodName := ⟨cW, "res", "(I)Lcom/example/gamesmith/gamesmith/game/Result;"⟩
abbrev y20 : MethodName := ⟨cW, "is", "(II)I"⟩
abbrev y0 : MethodName := ⟨cW, "code", "(I)I"⟩
abbrev y1 : MethodName := ⟨cT, "<init>", "(I)V"⟩
abbrev y5 : MethodName := ⟨"java/util/AbstractCollection", "<init>", "()V"⟩
abbrev y4 : MethodName := ⟨"java/util/AbstractList", "<init>", "()V"⟩
abbrev y3 : MethodName := ⟨cA, "<init>", "()V"⟩
abbrev y11 : MethodName := ⟨"java/lang/Math", "max", "(II)I"⟩
abbrev y10 : MethodName := ⟨cA, "grow", "(I)[Ljava/lang/Object;"⟩
abbrev y9 : MethodName := ⟨cA, "grow", "()[Ljava/lang/Object;"⟩
abbrev y8 : MethodName := ⟨cA, "add", "(Ljava/lang/Object;[Ljava/lang/Object;I)V"⟩
abbrev y7 : MethodName := ⟨cA, "add", "(Ljava/lang/Object;)Z"⟩
abbrev y13 : MethodName := ⟨cA, "size", "()I"⟩
abbrev yl13 : MethodName := ⟨"java/util/List", "size", "()I"⟩
abbrev y16 : MethodName := ⟨"jdk/internal/util/Preconditions", "checkIndex", "(IILjava/util/function/BiFunction;)I"⟩
abbrev y15 : MethodName := ⟨"java/util/Objects", "checkIndex", "(II)I"⟩
abbrev y17 : MethodName := ⟨cA, "elementData", "(I)Ljava/lang/Object;"⟩
abbrev y14 : MethodName := ⟨cA, "get", "(I)Ljava/lang/Object;"⟩
abbrev yl18 : MethodName := ⟨"java/util/List", "get", "(I)Ljava/lang/Object;"⟩
abbrev y18 : MethodName := ⟨"java/lang/Enum", "ordinal", "()I"⟩
abbrev yl20 : MethodName := ⟨cR, "ordinal", "()I"⟩
abbrev y12 : MethodName := ⟨cT, "record", "(Ljava/util/List;)V"⟩
abbrev y19 : MethodName := ⟨cT, "add", "(Lcom/example/gamesmith/gamesmith/arena/Tally;)V"⟩
abbrev y21 : MethodName := ⟨cT, "matches", "()I"⟩
abbrev y22 : MethodName := ⟨cT, "drawnMatches", "()I"⟩
abbrev y23 : MethodName := ⟨cT, "wins", "(I)I"⟩
abbrev y24 : MethodName := ⟨cT, "losses", "(I)I"⟩
abbrev y25 : MethodName := ⟨cT, "draws", "(I)I"⟩
abbrev rm_0_0_0_0 : Room := { frames := 0, cells := 0, slots := 0, locals := 0 }
abbrev rm_1_3_6_12 : Room := { frames := 1, cells := 3, slots := 6, locals := 12 }
abbrev rm_1_0_0_12 : Room := { frames := 1, cells := 0, slots := 0, locals := 12 }
abbrev rm_2_0_0_24 : Room := { frames := 2, cells := 0, slots := 0, locals := 24 }
abbrev rm_3_0_0_36 : Room := { frames := 3, cells := 0, slots := 0, locals := 36 }
abbrev rm_1_1_10_14 : Room := { frames := 1, cells := 1, slots := 10, locals := 14 }
abbrev rm_2_1_10_29 : Room := { frames := 2, cells := 1, slots := 10, locals := 29 }
abbrev rm_3_1_10_41 : Room := { frames := 3, cells := 1, slots := 10, locals := 41 }
abbrev rm_4_1_10_56 : Room := { frames := 4, cells := 1, slots := 10, locals := 56 }
abbrev rm_1_0_0_15 : Room := { frames := 1, cells := 0, slots := 0, locals := 15 }
abbrev rm_1_0_0_14 : Room := { frames := 1, cells := 0, slots := 0, locals := 14 }
abbrev rm_2_0_0_27 : Room := { frames := 2, cells := 0, slots := 0, locals := 27 }
abbrev rm_3_0_0_41 : Room := { frames := 3, cells := 0, slots := 0, locals := 41 }
theorem w0 {Z : State} {a0 : Array Value} (hw : HW a0 Z) : (Jvm.Cond.methodLink cW (20 : Nat) ({ cls := cW, name := "code", desc := "(I)I" } : Jvm.MethodName)).before a0 Z = true := hw _ (List.mem_of_getElem? (i := 0) rfl)
theorem w1 {Z : State} {a0 : Array Value} (hw : HW a0 Z) : (Jvm.Cond.static ({ cls := cW, name := "code", desc := "(I)I" } : Jvm.MethodName)).before a0 Z = true := hw _ (List.mem_of_getElem? (i := 1) rfl)
theorem w2 {Z : State} {a0 : Array Value} (hw : HW a0 Z) : (Jvm.Cond.initialized cW).before a0 Z = true := hw _ (List.mem_of_getElem? (i := 2) rfl)
theorem w3 {Z : State} {a0 : Array Value} (hw : HW a0 Z) : (Jvm.Cond.code ({ cls := cW, name := "code", desc := "(I)I" } : Jvm.MethodName) method_2_code (1 : Nat) (Option.some Jvm.ClassFile.FieldType.int)).before a0 Z = true := hw _ (List.mem_of_getElem? (i := 3) rfl)
theorem w4 {Z : State} {a0 : Array Value} (hw : HW a0 Z) : (Jvm.Cond.constant cW (7 : Nat) (2147483647 : Int32)).before a0 Z = true := hw _ (List.mem_of_getElem? (i := 4) rfl)
theorem w5 {Z : State} {a0 : Array Value} (hw : HW a0 Z) : (Jvm.Cond.classLink cW (26 : Nat) cT).before a0 Z = true := hw _ (List.mem_of_getElem? (i := 5) rfl)
theorem w6 {Z : State} {a0 : Array Value} (hw : HW a0 Z) : (Jvm.Cond.instantiable cT (5 : Nat)).before a0 Z = true := hw _ (List.mem_of_getElem? (i := 6) rfl)
theorem w7 {Z : State} {a0 : Array Value} (hw : HW a0 Z) : (Jvm.Cond.initialized cT).before a0 Z = true := hw _ (List.mem_of_getElem? (i := 7) rfl)
theorem w8 {Z : State} {a0 : Array Value} (hw : HW a0 Z) : (Jvm.Cond.methodLink cW (28 : Nat) ({ cls := cT, name := "<init>", desc := "(I)V" } : Jvm.MethodName)).before a0 Z = true := hw _ (List.mem_of_getElem? (i := 8) rfl)
theorem w9 {Z : State} {a0 : Array Value} (hw : HW a0 Z) : (Jvm.Cond.instanceMethod ({ cls := cT, name := "<init>", desc := "(I)V" } : Jvm.MethodName)).before a0 Z = true := hw _ (List.mem_of_getElem? (i := 9) rfl)
theorem w10 {Z : State} {a0 : Array Value} (hw : HW a0 Z) : (Jvm.Cond.code ({ cls := cT, name := "<init>", desc := "(I)V" } : Jvm.MethodName) prog_6_method_1_code (2 : Nat) (Option.none : Option Jvm.ClassFile.FieldType)).before a0 Z = true := hw _ (List.mem_of_getElem? (i := 10) rfl)
theorem w11 {Z : State} {a0 : Array Value} (hw : HW a0 Z) : (Jvm.Cond.methodLink cT (1 : Nat) ({ cls := "java/lang/Object", name := "<init>", desc := "()V" } : Jvm.MethodName)).before a0 Z = true := hw _ (List.mem_of_getElem? (i := 11) rfl)
theorem w12 {Z : State} {a0 : Array Value} (hw : HW a0 Z) : (Jvm.Cond.instanceMethod ({ cls := "java/lang/Object", name := "<init>", desc := "()V" } : Jvm.MethodName)).before a0 Z = true := hw _ (List.mem_of_getElem? (i := 12) rfl)
theorem w13 {Z : State} {a0 : Array Value} (hw : HW a0 Z) : (Jvm.Cond.code ({ cls := "java/lang/Object", name := "<init>", desc := "()V" } : Jvm.MethodName) object_method_1_code (1 : Nat) (Option.none : Option Jvm.ClassFile.FieldType)).before a0 Z = true := hw _ (List.mem_of_getElem? (i := 13) rfl)
theorem w14 {Z : State} {a0 : Array Value} (hw : HW a0 Z) : (Jvm.Cond.arrayClass Jvm.ClassFile.FieldType.int).before a0 Z = true := hw _ (List.mem_of_getElem? (i := 14) rfl)
theorem w15 {Z : State} {a0 : Array Value} (hw : HW a0 Z) : (Jvm.Cond.fieldLink cT (14 : Nat) cT "wins" "[I").before a0 Z = true := hw _ (List.mem_of_getElem? (i := 15) rfl)
theorem w16 {Z : State} {a0 : Array Value} (hw : HW a0 Z) : (Jvm.Cond.laysFinal cT cT "wins" "[I").before a0 Z = true := hw _ (List.mem_of_getElem? (i := 16) rfl)
theorem w17 {Z : State} {a0 : Array Value} (hw : HW a0 Z) : (Jvm.Cond.fieldLink cT (20 : Nat) cT "draws" "[I").before a0 Z = true := hw _ (List.mem_of_getElem? (i := 17) rfl)
theorem w18 {Z : State} {a0 : Array Value} (hw : HW a0 Z) : (Jvm.Cond.laysFinal cT cT "draws" "[I").before a0 Z = true := hw _ (List.mem_of_getElem? (i := 18) rfl)
theorem w19 {Z : State} {a0 : Array Value} (hw : HW a0 Z) : (Jvm.Cond.fieldLink cT (23 : Nat) cT "losses" "[I").before a0 Z = true := hw _ (List.mem_of_getElem? (i := 19) rfl)
theorem w20 {Z : State} {a0 : Array Value} (hw : HW a0 Z) : (Jvm.Cond.laysFinal cT cT "losses" "[I").before a0 Z = true := hw _ (List.mem_of_getElem? (i := 20) rfl)
theorem w21 {Z : State} {a0 : Array Value} (hw : HW a0 Z) : (Jvm.Cond.classLink cW (31 : Nat) cA).before a0 Z = true := hw _ (List.mem_of_getElem? (i := 21) rfl)
theorem w22 {Z : State} {a0 : Array Value} (hw : HW a0 Z) : (Jvm.Cond.instantiable cA (3 : Nat)).before a0 Z = true := hw _ (List.mem_of_getElem? (i := 22) rfl)
theorem w23 {Z : State} {a0 : Array Value} (hw : HW a0 Z) : (Jvm.Cond.initialized cA).before a0 Z = true := hw _ (List.mem_of_getElem? (i := 23) rfl)
theorem w24 {Z : State} {a0 : Array Value} (hw : HW a0 Z) : (Jvm.Cond.methodLink cW (33 : Nat) ({ cls := cA, name := "<init>", desc := "()V" } : Jvm.MethodName)).before a0 Z = true := hw _ (List.mem_of_getElem? (i := 24) rfl)
theorem w25 {Z : State} {a0 : Array Value} (hw : HW a0 Z) : (Jvm.Cond.instanceMethod ({ cls := cA, name := "<init>", desc := "()V" } : Jvm.MethodName)).before a0 Z = true := hw _ (List.mem_of_getElem? (i := 25) rfl)
theorem w26 {Z : State} {a0 : Array Value} (hw : HW a0 Z) : (Jvm.Cond.code ({ cls := cA, name := "<init>", desc := "()V" } : Jvm.MethodName) jdk_38_method_2_code (1 : Nat) (Option.none : Option Jvm.ClassFile.FieldType)).before a0 Z = true := hw _ (List.mem_of_getElem? (i := 26) rfl)
theorem w27 {Z : State} {a0 : Array Value} (hw : HW a0 Z) : (Jvm.Cond.methodLink cA (1 : Nat) ({ cls := "java/util/AbstractList", name := "<init>", desc := "()V" } : Jvm.MethodName)).before a0 Z = true := hw _ (List.mem_of_getElem? (i := 27) rfl)
theorem w28 {Z : State} {a0 : Array Value} (hw : HW a0 Z) : (Jvm.Cond.instanceMethod ({ cls := "java/util/AbstractList", name := "<init>", desc := "()V" } : Jvm.MethodName)).before a0 Z = true := hw _ (List.mem_of_getElem? (i := 28) rfl)
theorem w31 {Z : State} {a0 : Array Value} (hw : HW a0 Z) : (Jvm.Cond.initialized "java/util/AbstractList").before a0 Z = true := hw _ (List.mem_of_getElem? (i := 31) rfl)
theorem w32 {Z : State} {a0 : Array Value} (hw : HW a0 Z) : (Jvm.Cond.code ({ cls := "java/util/AbstractList", name := "<init>", desc := "()V" } : Jvm.MethodName) jdk_39_method_1_code (1 : Nat) (Option.none : Option Jvm.ClassFile.FieldType)).before a0 Z = true := hw _ (List.mem_of_getElem? (i := 32) rfl)
theorem w33 {Z : State} {a0 : Array Value} (hw : HW a0 Z) : (Jvm.Cond.methodLink "java/util/AbstractList" (1 : Nat) ({ cls := "java/util/AbstractCollection", name := "<init>", desc := "()V" } : Jvm.MethodName)).before a0 Z = true := hw _ (List.mem_of_getElem? (i := 33) rfl)
theorem w34 {Z : State} {a0 : Array Value} (hw : HW a0 Z) : (Jvm.Cond.instanceMethod ({ cls := "java/util/AbstractCollection", name := "<init>", desc := "()V" } : Jvm.MethodName)).before a0 Z = true := hw _ (List.mem_of_getElem? (i := 34) rfl)
theorem w37 {Z : State} {a0 : Array Value} (hw : HW a0 Z) : (Jvm.Cond.initialized "java/util/AbstractCollection").before a0 Z = true := hw _ (List.mem_of_getElem? (i := 37) rfl)
theorem w38 {Z : State} {a0 : Array Value} (hw : HW a0 Z) : (Jvm.Cond.code ({ cls := "java/util/AbstractCollection", name := "<init>", desc := "()V" } : Jvm.MethodName) jdk_22_method_1_code (1 : Nat) (Option.none : Option Jvm.ClassFile.FieldType)).before a0 Z = true := hw _ (List.mem_of_getElem? (i := 38) rfl)
theorem w39 {Z : State} {a0 : Array Value} (hw : HW a0 Z) : (Jvm.Cond.methodLink "java/util/AbstractCollection" (1 : Nat) ({ cls := "java/lang/Object", name := "<init>", desc := "()V" } : Jvm.MethodName)).before a0 Z = true := hw _ (List.mem_of_getElem? (i := 39) rfl)
theorem w40 {Z : State} {a0 : Array Value} (hw : HW a0 Z) : (Jvm.Cond.fieldLink "java/util/AbstractList" (7 : Nat) "java/util/AbstractList" "modCount" "I").before a0 Z = true := hw _ (List.mem_of_getElem? (i := 40) rfl)
theorem w41 {Z : State} {a0 : Array Value} (hw : HW a0 Z) : (Jvm.Cond.lays cA "java/util/AbstractList" "modCount" "I").before a0 Z = true := hw _ (List.mem_of_getElem? (i := 41) rfl)
theorem w42 {Z : State} {a0 : Array Value} (hw : HW a0 Z) : (Jvm.Cond.fieldLink cA (39 : Nat) cA "DEFAULTCAPACITY_EMPTY_ELEMENTDATA" "[Ljava/lang/Object;").before a0 Z = true := hw _ (List.mem_of_getElem? (i := 42) rfl)
theorem w43 {Z : State} {a0 : Array Value} (hw : HW a0 Z) : (Jvm.Cond.fieldLink cA (9 : Nat) cA "elementData" "[Ljava/lang/Object;").before a0 Z = true := hw _ (List.mem_of_getElem? (i := 43) rfl)
theorem w44 {Z : State} {a0 : Array Value} (hw : HW a0 Z) : (Jvm.Cond.lays cA cA "elementData" "[Ljava/lang/Object;").before a0 Z = true := hw _ (List.mem_of_getElem? (i := 44) rfl)
theorem w45 {Z : State} {a0 : Array Value} (hw : HW a0 Z) : (Jvm.Cond.methodLink cW (34 : Nat) ({ cls := cW, name := "res", desc := "(I)Lcom/example/gamesmith/gamesmith/game/Result;" } : Jvm.MethodName)).before a0 Z = true := hw _ (List.mem_of_getElem? (i := 45) rfl)
theorem w46 {Z : State} {a0 : Array Value} (hw : HW a0 Z) : (Jvm.Cond.static ({ cls := cW, name := "res", desc := "(I)Lcom/example/gamesmith/gamesmith/game/Result;" } : Jvm.MethodName)).before a0 Z = true := hw _ (List.mem_of_getElem? (i := 46) rfl)
theorem w47 {Z : State} {a0 : Array Value} (hw : HW a0 Z) : (Jvm.Cond.code ({ cls := cW, name := "res", desc := "(I)Lcom/example/gamesmith/gamesmith/game/Result;" } : Jvm.MethodName) method_3_code (1 : Nat) (Option.some (Jvm.ClassFile.FieldType.object cR))).before a0 Z = true := hw _ (List.mem_of_getElem? (i := 47) rfl)
theorem w48 {Z : State} {a0 : Array Value} (hw : HW a0 Z) : (Jvm.Cond.fieldLink cW (8 : Nat) cR "WIN" "Lcom/example/gamesmith/gamesmith/game/Result;").before a0 Z = true := hw _ (List.mem_of_getElem? (i := 48) rfl)
theorem w49 {Z : State} {a0 : Array Value} (hw : HW a0 Z) : (Jvm.Cond.initialized cR).before a0 Z = true := hw _ (List.mem_of_getElem? (i := 49) rfl)
theorem w50 {Z : State} {a0 : Array Value} (hw : HW a0 Z) : (Jvm.Cond.laysStatic cR "WIN" "Lcom/example/gamesmith/gamesmith/game/Result;").before a0 Z = true := hw _ (List.mem_of_getElem? (i := 50) rfl)
theorem w51 {Z : State} {a0 : Array Value} (hw : HW a0 Z) : (Jvm.Cond.methodLink cW (38 : Nat) ({ cls := cA, name := "add", desc := "(Ljava/lang/Object;)Z" } : Jvm.MethodName)).before a0 Z = true := hw _ (List.mem_of_getElem? (i := 51) rfl)
theorem w52 {Z : State} {a0 : Array Value} (hw : HW a0 Z) : (Jvm.Cond.declares ({ cls := cA, name := "add", desc := "(Ljava/lang/Object;)Z" } : Jvm.MethodName)).before a0 Z = true := hw _ (List.mem_of_getElem? (i := 52) rfl)
theorem w53 {Z : State} {a0 : Array Value} (hw : HW a0 Z) : (Jvm.Cond.instanceMethod ({ cls := cA, name := "add", desc := "(Ljava/lang/Object;)Z" } : Jvm.MethodName)).before a0 Z = true := hw _ (List.mem_of_getElem? (i := 53) rfl)
theorem w54 {Z : State} {a0 : Array Value} (hw : HW a0 Z) : (Jvm.Cond.selects cA ({ cls := cA, name := "add", desc := "(Ljava/lang/Object;)Z" } : Jvm.MethodName) ({ cls := cA, name := "add", desc := "(Ljava/lang/Object;)Z" } : Jvm.MethodName)).before a0 Z = true := hw _ (List.mem_of_getElem? (i := 54) rfl)
theorem w55 {Z : State} {a0 : Array Value} (hw : HW a0 Z) : (Jvm.Cond.code ({ cls := cA, name := "add", desc := "(Ljava/lang/Object;)Z" } : Jvm.MethodName) jdk_38_method_25_code (2 : Nat) (Option.some Jvm.ClassFile.FieldType.boolean)).before a0 Z = true := hw _ (List.mem_of_getElem? (i := 55) rfl)
theorem w56 {Z : State} {a0 : Array Value} (hw : HW a0 Z) : (Jvm.Cond.fieldLink cA (63 : Nat) cA "modCount" "I").before a0 Z = true := hw _ (List.mem_of_getElem? (i := 56) rfl)
theorem w57 {Z : State} {a0 : Array Value} (hw : HW a0 Z) : (Jvm.Cond.sameField cA "java/util/AbstractList" "modCount" "I").before a0 Z = true := hw _ (List.mem_of_getElem? (i := 57) rfl)
theorem w58 {Z : State} {a0 : Array Value} (hw : HW a0 Z) : (Jvm.Cond.fieldLink cA (48 : Nat) cA "size" "I").before a0 Z = true := hw _ (List.mem_of_getElem? (i := 58) rfl)
theorem w59 {Z : State} {a0 : Array Value} (hw : HW a0 Z) : (Jvm.Cond.lays cA cA "size" "I").before a0 Z = true := hw _ (List.mem_of_getElem? (i := 59) rfl)
theorem w60 {Z : State} {a0 : Array Value} (hw : HW a0 Z) : (Jvm.Cond.methodLink cA (131 : Nat) ({ cls := cA, name := "add", desc := "(Ljava/lang/Object;[Ljava/lang/Object;I)V" } : Jvm.MethodName)).before a0 Z = true := hw _ (List.mem_of_getElem? (i := 60) rfl)
theorem w61 {Z : State} {a0 : Array Value} (hw : HW a0 Z) : (Jvm.Cond.instanceMethod ({ cls := cA, name := "add", desc := "(Ljava/lang/Object;[Ljava/lang/Object;I)V" } : Jvm.MethodName)).before a0 Z = true := hw _ (List.mem_of_getElem? (i := 61) rfl)
theorem w62 {Z : State} {a0 : Array Value} (hw : HW a0 Z) : (Jvm.Cond.privateMethod ({ cls := cA, name := "add", desc := "(Ljava/lang/Object;[Ljava/lang/Object;I)V" } : Jvm.MethodName)).before a0 Z = true := hw _ (List.mem_of_getElem? (i := 62) rfl)
theorem w64 {Z : State} {a0 : Array Value} (hw : HW a0 Z) : (Jvm.Cond.code ({ cls := cA, name := "add", desc := "(Ljava/lang/Object;[Ljava/lang/Object;I)V" } : Jvm.MethodName) jdk_38_method_24_code (4 : Nat) (Option.none : Option Jvm.ClassFile.FieldType)).before a0 Z = true := hw _ (List.mem_of_getElem? (i := 64) rfl)
theorem w65 {Z : State} {a0 : Array Value} (hw : HW a0 Z) : (Jvm.Cond.methodLink cA (129 : Nat) ({ cls := cA, name := "grow", desc := "()[Ljava/lang/Object;" } : Jvm.MethodName)).before a0 Z = true := hw _ (List.mem_of_getElem? (i := 65) rfl)
theorem w66 {Z : State} {a0 : Array Value} (hw : HW a0 Z) : (Jvm.Cond.instanceMethod ({ cls := cA, name := "grow", desc := "()[Ljava/lang/Object;" } : Jvm.MethodName)).before a0 Z = true := hw _ (List.mem_of_getElem? (i := 66) rfl)
theorem w67 {Z : State} {a0 : Array Value} (hw : HW a0 Z) : (Jvm.Cond.privateMethod ({ cls := cA, name := "grow", desc := "()[Ljava/lang/Object;" } : Jvm.MethodName)).before a0 Z = true := hw _ (List.mem_of_getElem? (i := 67) rfl)
theorem w69 {Z : State} {a0 : Array Value} (hw : HW a0 Z) : (Jvm.Cond.code ({ cls := cA, name := "grow", desc := "()[Ljava/lang/Object;" } : Jvm.MethodName) jdk_38_method_7_code (1 : Nat) (Option.some (Jvm.ClassFile.FieldType.array (Jvm.ClassFile.FieldType.object "java/lang/Object")))).before a0 Z = true := hw _ (List.mem_of_getElem? (i := 69) rfl)
theorem w70 {Z : State} {a0 : Array Value} (hw : HW a0 Z) : (Jvm.Cond.methodLink cA (69 : Nat) ({ cls := cA, name := "grow", desc := "(I)[Ljava/lang/Object;" } : Jvm.MethodName)).before a0 Z = true := hw _ (List.mem_of_getElem? (i := 70) rfl)
theorem w71 {Z : State} {a0 : Array Value} (hw : HW a0 Z) : (Jvm.Cond.instanceMethod ({ cls := cA, name := "grow", desc := "(I)[Ljava/lang/Object;" } : Jvm.MethodName)).before a0 Z = true := hw _ (List.mem_of_getElem? (i := 71) rfl)
theorem w72 {Z : State} {a0 : Array Value} (hw : HW a0 Z) : (Jvm.Cond.privateMethod ({ cls := cA, name := "grow", desc := "(I)[Ljava/lang/Object;" } : Jvm.MethodName)).before a0 Z = true := hw _ (List.mem_of_getElem? (i := 72) rfl)
theorem w74 {Z : State} {a0 : Array Value} (hw : HW a0 Z) : (Jvm.Cond.code ({ cls := cA, name := "grow", desc := "(I)[Ljava/lang/Object;" } : Jvm.MethodName) jdk_38_method_6_code (4 : Nat) (Option.some (Jvm.ClassFile.FieldType.array (Jvm.ClassFile.FieldType.object "java/lang/Object")))).before a0 Z = true := hw _ (List.mem_of_getElem? (i := 74) rfl)
theorem w75 {Z : State} {a0 : Array Value} (hw : HW a0 Z) : (Jvm.Cond.methodLink cA (79 : Nat) ({ cls := "java/lang/Math", name := "max", desc := "(II)I" } : Jvm.MethodName)).before a0 Z = true := hw _ (List.mem_of_getElem? (i := 75) rfl)
theorem w76 {Z : State} {a0 : Array Value} (hw : HW a0 Z) : (Jvm.Cond.static ({ cls := "java/lang/Math", name := "max", desc := "(II)I" } : Jvm.MethodName)).before a0 Z = true := hw _ (List.mem_of_getElem? (i := 76) rfl)
theorem w77 {Z : State} {a0 : Array Value} (hw : HW a0 Z) : (Jvm.Cond.initialized "java/lang/Math").before a0 Z = true := hw _ (List.mem_of_getElem? (i := 77) rfl)
theorem w78 {Z : State} {a0 : Array Value} (hw : HW a0 Z) : (Jvm.Cond.code ({ cls := "java/lang/Math", name := "max", desc := "(II)I" } : Jvm.MethodName) jdk_29_method_65_code (2 : Nat) (Option.some Jvm.ClassFile.FieldType.int)).before a0 Z = true := hw _ (List.mem_of_getElem? (i := 78) rfl)
theorem w79 {Z : State} {a0 : Array Value} (hw : HW a0 Z) : (Jvm.Cond.classLink cA (7 : Nat) "java/lang/Object").before a0 Z = true := hw _ (List.mem_of_getElem? (i := 79) rfl)
theorem w80 {Z : State} {a0 : Array Value} (hw : HW a0 Z) : (Jvm.Cond.arrayOver (Jvm.ClassFile.FieldType.object "java/lang/Object")).before a0 Z = true := hw _ (List.mem_of_getElem? (i := 80) rfl)
theorem w81 {Z : State} {a0 : Array Value} (hw : HW a0 Z) : (Jvm.Cond.castable cR "java/lang/Object").before a0 Z = true := hw _ (List.mem_of_getElem? (i := 81) rfl)
theorem w82 {Z : State} {a0 : Array Value} (hw : HW a0 Z) : (Jvm.Cond.fieldLink cW (17 : Nat) cR "DRAW" "Lcom/example/gamesmith/gamesmith/game/Result;").before a0 Z = true := hw _ (List.mem_of_getElem? (i := 82) rfl)
theorem w83 {Z : State} {a0 : Array Value} (hw : HW a0 Z) : (Jvm.Cond.laysStatic cR "DRAW" "Lcom/example/gamesmith/gamesmith/game/Result;").before a0 Z = true := hw _ (List.mem_of_getElem? (i := 83) rfl)
theorem w84 {Z : State} {a0 : Array Value} (hw : HW a0 Z) : (Jvm.Cond.fieldLink cW (14 : Nat) cR "LOSS" "Lcom/example/gamesmith/gamesmith/game/Result;").before a0 Z = true := hw _ (List.mem_of_getElem? (i := 84) rfl)
theorem w85 {Z : State} {a0 : Array Value} (hw : HW a0 Z) : (Jvm.Cond.laysStatic cR "LOSS" "Lcom/example/gamesmith/gamesmith/game/Result;").before a0 Z = true := hw _ (List.mem_of_getElem? (i := 85) rfl)
theorem w86 {Z : State} {a0 : Array Value} (hw : HW a0 Z) : (Jvm.Cond.methodLink cW (42 : Nat) ({ cls := cT, name := "record", desc := "(Ljava/util/List;)V" } : Jvm.MethodName)).before a0 Z = true := hw _ (List.mem_of_getElem? (i := 86) rfl)
theorem w87 {Z : State} {a0 : Array Value} (hw : HW a0 Z) : (Jvm.Cond.declares ({ cls := cT, name := "record", desc := "(Ljava/util/List;)V" } : Jvm.MethodName)).before a0 Z = true := hw _ (List.mem_of_getElem? (i := 87) rfl)
theorem w88 {Z : State} {a0 : Array Value} (hw : HW a0 Z) : (Jvm.Cond.instanceMethod ({ cls := cT, name := "record", desc := "(Ljava/util/List;)V" } : Jvm.MethodName)).before a0 Z = true := hw _ (List.mem_of_getElem? (i := 88) rfl)
theorem w89 {Z : State} {a0 : Array Value} (hw : HW a0 Z) : (Jvm.Cond.selects cT ({ cls := cT, name := "record", desc := "(Ljava/util/List;)V" } : Jvm.MethodName) ({ cls := cT, name := "record", desc := "(Ljava/util/List;)V" } : Jvm.MethodName)).before a0 Z = true := hw _ (List.mem_of_getElem? (i := 89) rfl)
theorem w90 {Z : State} {a0 : Array Value} (hw : HW a0 Z) : (Jvm.Cond.code ({ cls := cT, name := "record", desc := "(Ljava/util/List;)V" } : Jvm.MethodName) prog_6_method_2_code (4 : Nat) (Option.none : Option Jvm.ClassFile.FieldType)).before a0 Z = true := hw _ (List.mem_of_getElem? (i := 90) rfl)
theorem w91 {Z : State} {a0 : Array Value} (hw : HW a0 Z) : (Jvm.Cond.methodLink cT (26 : Nat) ({ cls := "java/util/List", name := "size", desc := "()I" } : Jvm.MethodName)).before a0 Z = true := hw _ (List.mem_of_getElem? (i := 91) rfl)
theorem w92 {Z : State} {a0 : Array Value} (hw : HW a0 Z) : (Jvm.Cond.declares ({ cls := "java/util/List", name := "size", desc := "()I" } : Jvm.MethodName)).before a0 Z = true := hw _ (List.mem_of_getElem? (i := 92) rfl)
theorem w93 {Z : State} {a0 : Array Value} (hw : HW a0 Z) : (Jvm.Cond.interfaceMethod "java/util/List" "java/util/List" "size" "()I").before a0 Z = true := hw _ (List.mem_of_getElem? (i := 93) rfl)
theorem w94 {Z : State} {a0 : Array Value} (hw : HW a0 Z) : (Jvm.Cond.selects cA ({ cls := "java/util/List", name := "size", desc := "()I" } : Jvm.MethodName) ({ cls := cA, name := "size", desc := "()I" } : Jvm.MethodName)).before a0 Z = true := hw _ (List.mem_of_getElem? (i := 94) rfl)
theorem w95 {Z : State} {a0 : Array Value} (hw : HW a0 Z) : (Jvm.Cond.instanceMethod ({ cls := cA, name := "size", desc := "()I" } : Jvm.MethodName)).before a0 Z = true := hw _ (List.mem_of_getElem? (i := 95) rfl)
theorem w96 {Z : State} {a0 : Array Value} (hw : HW a0 Z) : (Jvm.Cond.publicMethod ({ cls := cA, name := "size", desc := "()I" } : Jvm.MethodName)).before a0 Z = true := hw _ (List.mem_of_getElem? (i := 96) rfl)
theorem w97 {Z : State} {a0 : Array Value} (hw : HW a0 Z) : (Jvm.Cond.unhidden cA "size" "()I").before a0 Z = true := hw _ (List.mem_of_getElem? (i := 97) rfl)
theorem w98 {Z : State} {a0 : Array Value} (hw : HW a0 Z) : (Jvm.Cond.castable cA "java/util/List").before a0 Z = true := hw _ (List.mem_of_getElem? (i := 98) rfl)
theorem w99 {Z : State} {a0 : Array Value} (hw : HW a0 Z) : (Jvm.Cond.code ({ cls := cA, name := "size", desc := "()I" } : Jvm.MethodName) jdk_38_method_8_code (1 : Nat) (Option.some Jvm.ClassFile.FieldType.int)).before a0 Z = true := hw _ (List.mem_of_getElem? (i := 99) rfl)
theorem w100 {Z : State} {a0 : Array Value} (hw : HW a0 Z) : (Jvm.Cond.fieldLink cT (36 : Nat) "com/example/gamesmith/gamesmith/arena/Tally$1" "$SwitchMap$com$example$gamesmith$gamesmith$game$Result" "[I").before a0 Z = true := hw _ (List.mem_of_getElem? (i := 100) rfl)
theorem w101 {Z : State} {a0 : Array Value} (hw : HW a0 Z) : (Jvm.Cond.initialized "com/example/gamesmith/gamesmith/arena/Tally$1").before a0 Z = true := hw _ (List.mem_of_getElem? (i := 101) rfl)
theorem w102 {Z : State} {a0 : Array Value} (hw : HW a0 Z) : (Jvm.Cond.laysStatic "com/example/gamesmith/gamesmith/arena/Tally$1" "$SwitchMap$com$example$gamesmith$gamesmith$game$Result" "[I").before a0 Z = true := hw _ (List.mem_of_getElem? (i := 102) rfl)
theorem w103 {Z : State} {a0 : Array Value} (hw : HW a0 Z) : (Jvm.Cond.methodLink cT (41 : Nat) ({ cls := "java/util/List", name := "get", desc := "(I)Ljava/lang/Object;" } : Jvm.MethodName)).before a0 Z = true := hw _ (List.mem_of_getElem? (i := 103) rfl)
theorem w104 {Z : State} {a0 : Array Value} (hw : HW a0 Z) : (Jvm.Cond.declares ({ cls := "java/util/List", name := "get", desc := "(I)Ljava/lang/Object;" } : Jvm.MethodName)).before a0 Z = true := hw _ (List.mem_of_getElem? (i := 104) rfl)
theorem w105 {Z : State} {a0 : Array Value} (hw : HW a0 Z) : (Jvm.Cond.interfaceMethod "java/util/List" "java/util/List" "get" "(I)Ljava/lang/Object;").before a0 Z = true := hw _ (List.mem_of_getElem? (i := 105) rfl)
theorem w106 {Z : State} {a0 : Array Value} (hw : HW a0 Z) : (Jvm.Cond.selects cA ({ cls := "java/util/List", name := "get", desc := "(I)Ljava/lang/Object;" } : Jvm.MethodName) ({ cls := cA, name := "get", desc := "(I)Ljava/lang/Object;" } : Jvm.MethodName)).before a0 Z = true := hw _ (List.mem_of_getElem? (i := 106) rfl)
theorem w107 {Z : State} {a0 : Array Value} (hw : HW a0 Z) : (Jvm.Cond.instanceMethod ({ cls := cA, name := "get", desc := "(I)Ljava/lang/Object;" } : Jvm.MethodName)).before a0 Z = true := hw _ (List.mem_of_getElem? (i := 107) rfl)
theorem w108 {Z : State} {a0 : Array Value} (hw : HW a0 Z) : (Jvm.Cond.publicMethod ({ cls := cA, name := "get", desc := "(I)Ljava/lang/Object;" } : Jvm.MethodName)).before a0 Z = true := hw _ (List.mem_of_getElem? (i := 108) rfl)
theorem w109 {Z : State} {a0 : Array Value} (hw : HW a0 Z) : (Jvm.Cond.unhidden cA "get" "(I)Ljava/lang/Object;").before a0 Z = true := hw _ (List.mem_of_getElem? (i := 109) rfl)
theorem w110 {Z : State} {a0 : Array Value} (hw : HW a0 Z) : (Jvm.Cond.code ({ cls := cA, name := "get", desc := "(I)Ljava/lang/Object;" } : Jvm.MethodName) jdk_38_method_20_code (2 : Nat) (Option.some (Jvm.ClassFile.FieldType.object "java/lang/Object"))).before a0 Z = true := hw _ (List.mem_of_getElem? (i := 110) rfl)
theorem w111 {Z : State} {a0 : Array Value} (hw : HW a0 Z) : (Jvm.Cond.methodLink cA (118 : Nat) ({ cls := "java/util/Objects", name := "checkIndex", desc := "(II)I" } : Jvm.MethodName)).before a0 Z = true := hw _ (List.mem_of_getElem? (i := 111) rfl)
theorem w112 {Z : State} {a0 : Array Value} (hw : HW a0 Z) : (Jvm.Cond.static ({ cls := "java/util/Objects", name := "checkIndex", desc := "(II)I" } : Jvm.MethodName)).before a0 Z = true := hw _ (List.mem_of_getElem? (i := 112) rfl)
theorem w113 {Z : State} {a0 : Array Value} (hw : HW a0 Z) : (Jvm.Cond.initialized "java/util/Objects").before a0 Z = true := hw _ (List.mem_of_getElem? (i := 113) rfl)
theorem w114 {Z : State} {a0 : Array Value} (hw : HW a0 Z) : (Jvm.Cond.code ({ cls := "java/util/Objects", name := "checkIndex", desc := "(II)I" } : Jvm.MethodName) jdk_31_method_17_code (2 : Nat) (Option.some Jvm.ClassFile.FieldType.int)).before a0 Z = true := hw _ (List.mem_of_getElem? (i := 114) rfl)
theorem w115 {Z : State} {a0 : Array Value} (hw : HW a0 Z) : (Jvm.Cond.methodLink "java/util/Objects" (105 : Nat) ({ cls := "jdk/internal/util/Preconditions", name := "checkIndex", desc := "(IILjava/util/function/BiFunction;)I" } : Jvm.MethodName)).before a0 Z = true := hw _ (List.mem_of_getElem? (i := 115) rfl)
theorem w116 {Z : State} {a0 : Array Value} (hw : HW a0 Z) : (Jvm.Cond.static ({ cls := "jdk/internal/util/Preconditions", name := "checkIndex", desc := "(IILjava/util/function/BiFunction;)I" } : Jvm.MethodName)).before a0 Z = true := hw _ (List.mem_of_getElem? (i := 116) rfl)
theorem w117 {Z : State} {a0 : Array Value} (hw : HW a0 Z) : (Jvm.Cond.initialized "jdk/internal/util/Preconditions").before a0 Z = true := hw _ (List.mem_of_getElem? (i := 117) rfl)
theorem w118 {Z : State} {a0 : Array Value} (hw : HW a0 Z) : (Jvm.Cond.code ({ cls := "jdk/internal/util/Preconditions", name := "checkIndex", desc := "(IILjava/util/function/BiFunction;)I" } : Jvm.MethodName) jdk_41_method_11_code (3 : Nat) (Option.some Jvm.ClassFile.FieldType.int)).before a0 Z = true := hw _ (List.mem_of_getElem? (i := 118) rfl)
theorem w119 {Z : State} {a0 : Array Value} (hw : HW a0 Z) : (Jvm.Cond.methodLink cA (123 : Nat) ({ cls := cA, name := "elementData", desc := "(I)Ljava/lang/Object;" } : Jvm.MethodName)).before a0 Z = true := hw _ (List.mem_of_getElem? (i := 119) rfl)
theorem w120 {Z : State} {a0 : Array Value} (hw : HW a0 Z) : (Jvm.Cond.declares ({ cls := cA, name := "elementData", desc := "(I)Ljava/lang/Object;" } : Jvm.MethodName)).before a0 Z = true := hw _ (List.mem_of_getElem? (i := 120) rfl)
theorem w121 {Z : State} {a0 : Array Value} (hw : HW a0 Z) : (Jvm.Cond.instanceMethod ({ cls := cA, name := "elementData", desc := "(I)Ljava/lang/Object;" } : Jvm.MethodName)).before a0 Z = true := hw _ (List.mem_of_getElem? (i := 121) rfl)
theorem w122 {Z : State} {a0 : Array Value} (hw : HW a0 Z) : (Jvm.Cond.selects cA ({ cls := cA, name := "elementData", desc := "(I)Ljava/lang/Object;" } : Jvm.MethodName) ({ cls := cA, name := "elementData", desc := "(I)Ljava/lang/Object;" } : Jvm.MethodName)).before a0 Z = true := hw _ (List.mem_of_getElem? (i := 122) rfl)
theorem w123 {Z : State} {a0 : Array Value} (hw : HW a0 Z) : (Jvm.Cond.code ({ cls := cA, name := "elementData", desc := "(I)Ljava/lang/Object;" } : Jvm.MethodName) jdk_38_method_18_code (2 : Nat) (Option.some (Jvm.ClassFile.FieldType.object "java/lang/Object"))).before a0 Z = true := hw _ (List.mem_of_getElem? (i := 123) rfl)
theorem w124 {Z : State} {a0 : Array Value} (hw : HW a0 Z) : (Jvm.Cond.classLink cT (45 : Nat) cR).before a0 Z = true := hw _ (List.mem_of_getElem? (i := 124) rfl)
theorem w126 {Z : State} {a0 : Array Value} (hw : HW a0 Z) : (Jvm.Cond.methodLink cT (47 : Nat) ({ cls := cR, name := "ordinal", desc := "()I" } : Jvm.MethodName)).before a0 Z = true := hw _ (List.mem_of_getElem? (i := 126) rfl)
theorem w127 {Z : State} {a0 : Array Value} (hw : HW a0 Z) : (Jvm.Cond.sameMethod cR "java/lang/Enum" "ordinal" "()I").before a0 Z = true := hw _ (List.mem_of_getElem? (i := 127) rfl)
theorem w128 {Z : State} {a0 : Array Value} (hw : HW a0 Z) : (Jvm.Cond.declares ({ cls := "java/lang/Enum", name := "ordinal", desc := "()I" } : Jvm.MethodName)).before a0 Z = true := hw _ (List.mem_of_getElem? (i := 128) rfl)
theorem w129 {Z : State} {a0 : Array Value} (hw : HW a0 Z) : (Jvm.Cond.instanceMethod ({ cls := "java/lang/Enum", name := "ordinal", desc := "()I" } : Jvm.MethodName)).before a0 Z = true := hw _ (List.mem_of_getElem? (i := 129) rfl)
theorem w130 {Z : State} {a0 : Array Value} (hw : HW a0 Z) : (Jvm.Cond.selects cR ({ cls := cR, name := "ordinal", desc := "()I" } : Jvm.MethodName) ({ cls := "java/lang/Enum", name := "ordinal", desc := "()I" } : Jvm.MethodName)).before a0 Z = true := hw _ (List.mem_of_getElem? (i := 130) rfl)
theorem w131 {Z : State} {a0 : Array Value} (hw : HW a0 Z) : (Jvm.Cond.initialized "java/lang/Enum").before a0 Z = true := hw _ (List.mem_of_getElem? (i := 131) rfl)
theorem w132 {Z : State} {a0 : Array Value} (hw : HW a0 Z) : (Jvm.Cond.code ({ cls := "java/lang/Enum", name := "ordinal", desc := "()I" } : Jvm.MethodName) jdk_37_method_2_code (1 : Nat) (Option.some Jvm.ClassFile.FieldType.int)).before a0 Z = true := hw _ (List.mem_of_getElem? (i := 132) rfl)
theorem w133 {Z : State} {a0 : Array Value} (hw : HW a0 Z) : (Jvm.Cond.fieldLink "java/lang/Enum" (7 : Nat) "java/lang/Enum" "ordinal" "I").before a0 Z = true := hw _ (List.mem_of_getElem? (i := 133) rfl)
theorem w135 {Z : State} {a0 : Array Value} (hw : HW a0 Z) : (Jvm.Cond.fieldLink cT (54 : Nat) cT "matches" "I").before a0 Z = true := hw _ (List.mem_of_getElem? (i := 135) rfl)
theorem w136 {Z : State} {a0 : Array Value} (hw : HW a0 Z) : (Jvm.Cond.lays cT cT "matches" "I").before a0 Z = true := hw _ (List.mem_of_getElem? (i := 136) rfl)
theorem w137 {Z : State} {a0 : Array Value} (hw : HW a0 Z) : (Jvm.Cond.methodLink cW (46 : Nat) ({ cls := cT, name := "add", desc := "(Lcom/example/gamesmith/gamesmith/arena/Tally;)V" } : Jvm.MethodName)).before a0 Z = true := hw _ (List.mem_of_getElem? (i := 137) rfl)
theorem w138 {Z : State} {a0 : Array Value} (hw : HW a0 Z) : (Jvm.Cond.declares ({ cls := cT, name := "add", desc := "(Lcom/example/gamesmith/gamesmith/arena/Tally;)V" } : Jvm.MethodName)).before a0 Z = true := hw _ (List.mem_of_getElem? (i := 138) rfl)
theorem w139 {Z : State} {a0 : Array Value} (hw : HW a0 Z) : (Jvm.Cond.instanceMethod ({ cls := cT, name := "add", desc := "(Lcom/example/gamesmith/gamesmith/arena/Tally;)V" } : Jvm.MethodName)).before a0 Z = true := hw _ (List.mem_of_getElem? (i := 139) rfl)
theorem w140 {Z : State} {a0 : Array Value} (hw : HW a0 Z) : (Jvm.Cond.selects cT ({ cls := cT, name := "add", desc := "(Lcom/example/gamesmith/gamesmith/arena/Tally;)V" } : Jvm.MethodName) ({ cls := cT, name := "add", desc := "(Lcom/example/gamesmith/gamesmith/arena/Tally;)V" } : Jvm.MethodName)).before a0 Z = true := hw _ (List.mem_of_getElem? (i := 140) rfl)
theorem w141 {Z : State} {a0 : Array Value} (hw : HW a0 Z) : (Jvm.Cond.code ({ cls := cT, name := "add", desc := "(Lcom/example/gamesmith/gamesmith/arena/Tally;)V" } : Jvm.MethodName) prog_6_method_3_code (3 : Nat) (Option.none : Option Jvm.ClassFile.FieldType)).before a0 Z = true := hw _ (List.mem_of_getElem? (i := 141) rfl)
theorem w142 {Z : State} {a0 : Array Value} (hw : HW a0 Z) : (Jvm.Cond.fieldLink cT (50 : Nat) cT "drawnMatches" "I").before a0 Z = true := hw _ (List.mem_of_getElem? (i := 142) rfl)
theorem w143 {Z : State} {a0 : Array Value} (hw : HW a0 Z) : (Jvm.Cond.lays cT cT "drawnMatches" "I").before a0 Z = true := hw _ (List.mem_of_getElem? (i := 143) rfl)
theorem w144 {Z : State} {a0 : Array Value} (hw : HW a0 Z) : (Jvm.Cond.methodLink cW (49 : Nat) ({ cls := cW, name := "is", desc := "(II)I" } : Jvm.MethodName)).before a0 Z = true := hw _ (List.mem_of_getElem? (i := 144) rfl)
theorem w145 {Z : State} {a0 : Array Value} (hw : HW a0 Z) : (Jvm.Cond.static ({ cls := cW, name := "is", desc := "(II)I" } : Jvm.MethodName)).before a0 Z = true := hw _ (List.mem_of_getElem? (i := 145) rfl)
theorem w146 {Z : State} {a0 : Array Value} (hw : HW a0 Z) : (Jvm.Cond.code ({ cls := cW, name := "is", desc := "(II)I" } : Jvm.MethodName) method_4_code (2 : Nat) (Option.some Jvm.ClassFile.FieldType.int)).before a0 Z = true := hw _ (List.mem_of_getElem? (i := 146) rfl)
theorem w147 {Z : State} {a0 : Array Value} (hw : HW a0 Z) : (Jvm.Cond.methodLink cW (53 : Nat) ({ cls := cT, name := "matches", desc := "()I" } : Jvm.MethodName)).before a0 Z = true := hw _ (List.mem_of_getElem? (i := 147) rfl)
theorem w148 {Z : State} {a0 : Array Value} (hw : HW a0 Z) : (Jvm.Cond.declares ({ cls := cT, name := "matches", desc := "()I" } : Jvm.MethodName)).before a0 Z = true := hw _ (List.mem_of_getElem? (i := 148) rfl)
theorem w149 {Z : State} {a0 : Array Value} (hw : HW a0 Z) : (Jvm.Cond.instanceMethod ({ cls := cT, name := "matches", desc := "()I" } : Jvm.MethodName)).before a0 Z = true := hw _ (List.mem_of_getElem? (i := 149) rfl)
theorem w150 {Z : State} {a0 : Array Value} (hw : HW a0 Z) : (Jvm.Cond.selects cT ({ cls := cT, name := "matches", desc := "()I" } : Jvm.MethodName) ({ cls := cT, name := "matches", desc := "()I" } : Jvm.MethodName)).before a0 Z = true := hw _ (List.mem_of_getElem? (i := 150) rfl)
theorem w151 {Z : State} {a0 : Array Value} (hw : HW a0 Z) : (Jvm.Cond.code ({ cls := cT, name := "matches", desc := "()I" } : Jvm.MethodName) prog_6_method_4_code (1 : Nat) (Option.some Jvm.ClassFile.FieldType.int)).before a0 Z = true := hw _ (List.mem_of_getElem? (i := 151) rfl)
theorem w152 {Z : State} {a0 : Array Value} (hw : HW a0 Z) : (Jvm.Cond.methodLink cW (57 : Nat) ({ cls := cT, name := "drawnMatches", desc := "()I" } : Jvm.MethodName)).before a0 Z = true := hw _ (List.mem_of_getElem? (i := 152) rfl)
theorem w153 {Z : State} {a0 : Array Value} (hw : HW a0 Z) : (Jvm.Cond.declares ({ cls := cT, name := "drawnMatches", desc := "()I" } : Jvm.MethodName)).before a0 Z = true := hw _ (List.mem_of_getElem? (i := 153) rfl)
theorem w154 {Z : State} {a0 : Array Value} (hw : HW a0 Z) : (Jvm.Cond.instanceMethod ({ cls := cT, name := "drawnMatches", desc := "()I" } : Jvm.MethodName)).before a0 Z = true := hw _ (List.mem_of_getElem? (i := 154) rfl)
theorem w155 {Z : State} {a0 : Array Value} (hw : HW a0 Z) : (Jvm.Cond.selects cT ({ cls := cT, name := "drawnMatches", desc := "()I" } : Jvm.MethodName) ({ cls := cT, name := "drawnMatches", desc := "()I" } : Jvm.MethodName)).before a0 Z = true := hw _ (List.mem_of_getElem? (i := 155) rfl)
theorem w156 {Z : State} {a0 : Array Value} (hw : HW a0 Z) : (Jvm.Cond.code ({ cls := cT, name := "drawnMatches", desc := "()I" } : Jvm.MethodName) prog_6_method_5_code (1 : Nat) (Option.some Jvm.ClassFile.FieldType.int)).before a0 Z = true := hw _ (List.mem_of_getElem? (i := 156) rfl)
theorem w157 {Z : State} {a0 : Array Value} (hw : HW a0 Z) : (Jvm.Cond.methodLink cW (60 : Nat) ({ cls := cT, name := "wins", desc := "(I)I" } : Jvm.MethodName)).before a0 Z = true := hw _ (List.mem_of_getElem? (i := 157) rfl)
theorem w158 {Z : State} {a0 : Array Value} (hw : HW a0 Z) : (Jvm.Cond.declares ({ cls := cT, name := "wins", desc := "(I)I" } : Jvm.MethodName)).before a0 Z = true := hw _ (List.mem_of_getElem? (i := 158) rfl)
theorem w159 {Z : State} {a0 : Array Value} (hw : HW a0 Z) : (Jvm.Cond.instanceMethod ({ cls := cT, name := "wins", desc := "(I)I" } : Jvm.MethodName)).before a0 Z = true := hw _ (List.mem_of_getElem? (i := 159) rfl)
theorem w160 {Z : State} {a0 : Array Value} (hw : HW a0 Z) : (Jvm.Cond.selects cT ({ cls := cT, name := "wins", desc := "(I)I" } : Jvm.MethodName) ({ cls := cT, name := "wins", desc := "(I)I" } : Jvm.MethodName)).before a0 Z = true := hw _ (List.mem_of_getElem? (i := 160) rfl)
theorem w161 {Z : State} {a0 : Array Value} (hw : HW a0 Z) : (Jvm.Cond.code ({ cls := cT, name := "wins", desc := "(I)I" } : Jvm.MethodName) prog_6_method_6_code (2 : Nat) (Option.some Jvm.ClassFile.FieldType.int)).before a0 Z = true := hw _ (List.mem_of_getElem? (i := 161) rfl)
theorem w162 {Z : State} {a0 : Array Value} (hw : HW a0 Z) : (Jvm.Cond.methodLink cW (63 : Nat) ({ cls := cT, name := "losses", desc := "(I)I" } : Jvm.MethodName)).before a0 Z = true := hw _ (List.mem_of_getElem? (i := 162) rfl)
theorem w163 {Z : State} {a0 : Array Value} (hw : HW a0 Z) : (Jvm.Cond.declares ({ cls := cT, name := "losses", desc := "(I)I" } : Jvm.MethodName)).before a0 Z = true := hw _ (List.mem_of_getElem? (i := 163) rfl)
theorem w164 {Z : State} {a0 : Array Value} (hw : HW a0 Z) : (Jvm.Cond.instanceMethod ({ cls := cT, name := "losses", desc := "(I)I" } : Jvm.MethodName)).before a0 Z = true := hw _ (List.mem_of_getElem? (i := 164) rfl)
theorem w165 {Z : State} {a0 : Array Value} (hw : HW a0 Z) : (Jvm.Cond.selects cT ({ cls := cT, name := "losses", desc := "(I)I" } : Jvm.MethodName) ({ cls := cT, name := "losses", desc := "(I)I" } : Jvm.MethodName)).before a0 Z = true := hw _ (List.mem_of_getElem? (i := 165) rfl)
theorem w166 {Z : State} {a0 : Array Value} (hw : HW a0 Z) : (Jvm.Cond.code ({ cls := cT, name := "losses", desc := "(I)I" } : Jvm.MethodName) prog_6_method_8_code (2 : Nat) (Option.some Jvm.ClassFile.FieldType.int)).before a0 Z = true := hw _ (List.mem_of_getElem? (i := 166) rfl)
theorem w167 {Z : State} {a0 : Array Value} (hw : HW a0 Z) : (Jvm.Cond.methodLink cW (66 : Nat) ({ cls := cT, name := "draws", desc := "(I)I" } : Jvm.MethodName)).before a0 Z = true := hw _ (List.mem_of_getElem? (i := 167) rfl)
theorem w168 {Z : State} {a0 : Array Value} (hw : HW a0 Z) : (Jvm.Cond.declares ({ cls := cT, name := "draws", desc := "(I)I" } : Jvm.MethodName)).before a0 Z = true := hw _ (List.mem_of_getElem? (i := 168) rfl)
theorem w169 {Z : State} {a0 : Array Value} (hw : HW a0 Z) : (Jvm.Cond.instanceMethod ({ cls := cT, name := "draws", desc := "(I)I" } : Jvm.MethodName)).before a0 Z = true := hw _ (List.mem_of_getElem? (i := 169) rfl)
theorem w170 {Z : State} {a0 : Array Value} (hw : HW a0 Z) : (Jvm.Cond.selects cT ({ cls := cT, name := "draws", desc := "(I)I" } : Jvm.MethodName) ({ cls := cT, name := "draws", desc := "(I)I" } : Jvm.MethodName)).before a0 Z = true := hw _ (List.mem_of_getElem? (i := 170) rfl)
theorem w171 {Z : State} {a0 : Array Value} (hw : HW a0 Z) : (Jvm.Cond.code ({ cls := cT, name := "draws", desc := "(I)I" } : Jvm.MethodName) prog_6_method_7_code (2 : Nat) (Option.some Jvm.ClassFile.FieldType.int)).before a0 Z = true := hw _ (List.mem_of_getElem? (i := 171) rfl)
def QL (n0 : Nat) (v : Option Value) (h : Heap) (L : List Loc) : Prop := v = some (.int (1 : Int32)) ∧ Fr n0 L
def isF (x k : Int32) : Int32 := if x = k then 1 else 0
def bump (n c k : Int32) : Int32 := if c = k then n + 1 else n
def bumpD (n c c' : Int32) : Int32 := if c = 2 then (if c' = 2 then n + 1 else n) else n
def QR (Z : State) (s_WIN s_LOSS s_DRAW : Nat) (x : Int32) (h0 : Heap) (n0 : Nat) (v : Option Value) (h : Heap) (L : List Loc) : Prop := ∃ e : Nat, v = some (.ref e) ∧ (((0 : Int32) = x ∧ s_WIN = e) ∨ ((1 : Int32) = x ∧ s_LOSS = e) ∨ ((2 : Int32) = x ∧ s_DRAW = e)) ∧ Exa Z h0 e cR ∧ e < n0 ∧ Fr n0 L ∧ h = h0

set_option maxRecDepth 65536
set_option maxHeartbeats 40000000
theorem own_res (l : Launch) (Z : State) (a0 : Array Value) (hw : HW a0 Z) (ws : List Jvm.Cond) (h0 : Heap) (n0 : Nat) (s_WIN s_LOSS s_DRAW : Nat) (x : Int32) (hx3 : x = (0 : Int32) ∨ x = (1 : Int32) ∨ x = (2 : Int32)) (S_WIN : Sta Z h0 cR "WIN" "Lcom/example/gamesmith/gamesmith/game/Result;" (.ref s_WIN)) (S_LOSS : Sta Z h0 cR "LOSS" "Lcom/example/gamesmith/gamesmith/game/Result;" (.ref s_LOSS)) (S_DRAW : Sta Z h0 cR "DRAW" "Lcom/example/gamesmith/gamesmith/game/Result;" (.ref s_DRAW)) (E_s_WIN : Exa Z h0 s_WIN cR) (E_s_LOSS : Exa Z h0 s_LOSS cR) (E_s_DRAW : Exa Z h0 s_DRAW cR) (od_s_WIN : s_WIN < n0) (od_s_LOSS : s_LOSS < n0) (od_s_DRAW : s_DRAW < n0) :
    MC l Z y6 method_3_code 1 (some (.object cR)) ws rm_0_0_0_0 #[(.int x)] h0 (QR Z s_WIN s_LOSS s_DRAW x h0 n0) := by
  rcases hx3 with rfl | rfl | rfl
  · refine own_met (plainFor_of_name pn6) fun p e s m below meth c s₁ X0 hx hZ Y hml hO hnm hlk hret e0 => f_cast (f' := mkF m 0 #[(iv 0)] []) (by first | (simp [entryFrame, mkF, argsToLocals, Value.category]; done) | rfl) ?_
    have N0 := Fr.nil n0
    refine iN X0 hx (hb Y d6_0) rfl <| fN X0 hx (hb Y d6_1) <| f_getS X0 hx hZ hO (w48 hw) e0 S_WIN (hb Y d6_4) fun T1 X1 e1 => ?_
    exact f_ret X1 hx hlk (i := .areturn) hret rfl (Or.inr (Or.inr (Or.inr (Or.inr ⟨rfl, rfl, rfl⟩)))) (hb Y d6_7) (QQ := _) ⟨_, rfl, Or.inl ⟨rfl, rfl⟩, E_s_WIN, od_s_WIN, N0, e1⟩ (by decide) (by decide)
  · refine own_met (plainFor_of_name pn6) fun p e s m below meth c s₁ X0 hx hZ Y hml hO hnm hlk hret e0 => f_cast (f' := mkF m 0 #[(iv 1)] []) (by first | (simp [entryFrame, mkF, argsToLocals, Value.category]; done) | rfl) ?_
    have N0 := Fr.nil n0
    refine iN X0 hx (hb Y d6_0) rfl <| fY X0 hx (pc := 1) 8 (hb Y d6_1) <| iN X0 hx (hb Y d6_8) rfl <| iK X0 hx (z := 1) (hb Y d6_9) <| cN X0 hx (hb Y d6_10) <| f_getS X0 hx hZ hO (w84 hw) e0 S_LOSS (hb Y d6_13) fun T2 X2 e2 => ?_
    exact f_ret X2 hx hlk (i := .areturn) hret rfl (Or.inr (Or.inr (Or.inr (Or.inr ⟨rfl, rfl, rfl⟩)))) (hb Y d6_16) (QQ := _) ⟨_, rfl, Or.inr (Or.inl ⟨rfl, rfl⟩), E_s_LOSS, od_s_LOSS, N0, e2⟩ (by decide) (by decide)
  · refine own_met (plainFor_of_name pn6) fun p e s m below meth c s₁ X0 hx hZ Y hml hO hnm hlk hret e0 => f_cast (f' := mkF m 0 #[(iv 2)] []) (by first | (simp [entryFrame, mkF, argsToLocals, Value.category]; done) | rfl) ?_
    have N0 := Fr.nil n0
    refine iN X0 hx (hb Y d6_0) rfl <| fY X0 hx (pc := 1) 8 (hb Y d6_1) <| iN X0 hx (hb Y d6_8) rfl <| iK X0 hx (z := 1) (hb Y d6_9) <| cY X0 hx (pc := 10) 17 (hb Y d6_10) <| f_getS X0 hx hZ hO (w82 hw) e0 S_DRAW (hb Y d6_17) fun T3 X3 e3 => ?_
    exact f_ret X3 hx hlk (i := .areturn) hret rfl (Or.inr (Or.inr (Or.inr (Or.inr ⟨rfl, rfl, rfl⟩)))) (hb Y d6_20) (QQ := _) ⟨_, rfl, Or.inr (Or.inr ⟨rfl, rfl⟩), E_s_DRAW, od_s_DRAW, N0, e3⟩ (by decide) (by decide)
theorem own_is (l : Launch) (Z : State) (a0 : Array Value) (hw : HW a0 Z) (ws : List Jvm.Cond) (h0 : Heap) (n0 : Nat) (x i : Int32) :
    MC l Z y20 method_4_code 2 (some .int) ws rm_0_0_0_0 #[(.int x), (.int i)] h0 (QV (.int (isF x i)) h0 n0) := by
  refine own_met (plainFor_of_name pn20) fun p e s m below meth c s₁ X0 hx hZ Y hml hO hnm hlk hret e0 => f_cast (f' := mkF m 0 #[(iv x), (iv i)] []) (by first | (simp [entryFrame, mkF, argsToLocals, Value.category]; done) | rfl) ?_
  have N0 := Fr.nil n0
  by_cases hq : x = i
  · refine iN X0 hx (hb Y d20_0) rfl <| iN X0 hx (hb Y d20_1) rfl <| cN X0 hx (hb Y d20_2) (hc := (teq hq).2) <| iK X0 hx (z := 1) (hb Y d20_5) <| gT X0 hx (pc := 6) 10 (hb Y d20_6) ?_
    exact f_ret X0 hx hlk (i := .ireturn) hret rfl (Or.inl ⟨rfl, Or.inl rfl, _, rfl⟩) (hb Y d20_10) (QQ := (QV (.int (isF x i)) h0 n0)) ⟨by simp [isF, hq], N0, e0⟩ (by decide) (by decide)
  · refine iN X0 hx (hb Y d20_0) rfl <| iN X0 hx (hb Y d20_1) rfl <| cY X0 hx (pc := 2) 9 (hb Y d20_2) (hc := (feq hq).2) <| iK X0 hx (z := 0) (hb Y d20_9) ?_
    exact f_ret X0 hx hlk (i := .ireturn) hret rfl (Or.inl ⟨rfl, Or.inl rfl, _, rfl⟩) (hb Y d20_10) (QQ := (QV (.int (isF x i)) h0 n0)) ⟨by simp [isF, hq], N0, e0⟩ (by decide) (by decide)
def St0 (Z : State) (h : Heap) (n0 : Nat) (s_WIN : Nat) (s_LOSS : Nat) (s_DRAW : Nat) (s_SW : Nat) (s_EM : Nat) (k901 : ClassId) (k902 : ClassId) (p0 : Int32) (v0_ : Int32) (p1 : Int32) (v1_ : Int32) (p2 : Int32) (v2_ : Int32) (p3 : Int32) (v3_ : Int32) : Prop :=
  Sta Z h cR "WIN" "Lcom/example/gamesmith/gamesmith/game/Result;" (.ref s_WIN) ∧
  Sta Z h cR "LOSS" "Lcom/example/gamesmith/gamesmith/game/Result;" (.ref s_LOSS) ∧
  Sta Z h cR "DRAW" "Lcom/example/gamesmith/gamesmith/game/Result;" (.ref s_DRAW) ∧
  Sta Z h "com/example/gamesmith/gamesmith/arena/Tally$1" "$SwitchMap$com$example$gamesmith$gamesmith$game$Result" "[I" (.ref s_SW) ∧
  Sta Z h cA "DEFAULTCAPACITY_EMPTY_ELEMENTDATA" "[Ljava/lang/Object;" (.ref s_EM) ∧
  Exa Z h s_WIN cR ∧
  Fld Z h s_WIN "java/lang/Enum" "ordinal" "I" (.int 0) ∧
  Exa Z h s_LOSS cR ∧
  Fld Z h s_LOSS "java/lang/Enum" "ordinal" "I" (.int 1) ∧
  Exa Z h s_DRAW cR ∧
  Fld Z h s_DRAW "java/lang/Enum" "ordinal" "I" (.int 2) ∧
  Arv Z h s_SW k901 .int 3 [(.int 1), (.int 3), (.int 2)] (.int 0) ∧
  Arv Z h s_EM k902 (.object "java/lang/Object") 0 [] .null ∧
  s_WIN < n0 ∧
  s_LOSS < n0 ∧
  s_DRAW < n0 ∧
  s_SW < n0 ∧
  s_EM < n0 ∧
  ((p0 &&& (2147483647 : Int32)) % (3 : Int32)) = v0_ ∧
  (v0_ = (0 : Int32) ∨ v0_ = (1 : Int32) ∨ v0_ = (2 : Int32)) ∧
  ((p1 &&& (2147483647 : Int32)) % (3 : Int32)) = v1_ ∧
  (v1_ = (0 : Int32) ∨ v1_ = (1 : Int32) ∨ v1_ = (2 : Int32)) ∧
  ((p2 &&& (2147483647 : Int32)) % (3 : Int32)) = v2_ ∧
  (v2_ = (0 : Int32) ∨ v2_ = (1 : Int32) ∨ v2_ = (2 : Int32)) ∧
  ((p3 &&& (2147483647 : Int32)) % (3 : Int32)) = v3_ ∧
  (v3_ = (0 : Int32) ∨ v3_ = (1 : Int32) ∨ v3_ = (2 : Int32))
theorem q5 (l : Launch) (Z : State) (a0 : Array Value) (hw : HW a0 Z) (ws : List Jvm.Cond) (h0 : Heap) (n0 : Nat) (p0 : Int32) (v0_ : Int32) (hM0 : ((p0 &&& (2147483647 : Int32)) % (3 : Int32)) = v0_) :
    MC l Z y0 method_2_code 1 (some .int) ws rm_0_0_0_0 #[(.int p0)] h0 (QV (.int v0_) h0 n0) := by
  refine own_met (plainFor_of_name pn0) fun p e s m below meth c s₁ X0 hx hZ Y hml hO hnm hlk hret e0 => f_cast (f' := mkF m 0 #[(iv p0)] []) (by first | (simp [entryFrame, mkF, argsToLocals, Value.category]; done) | rfl) ?_
  have N0 := Fr.nil n0
  refine iN X0 hx (hb Y d0_0) rfl <| f_ldc X0 hx hZ hO (w4 hw) (hb Y d0_1) <| f_iand X0 hx (z := (p0 &&& (2147483647 : Int32))) (hb Y d0_3) (q := rfl) <| iK X0 hx (z := 3) (hb Y d0_4) <| f_irem X0 hx (z := v0_) (hb Y d0_5) (by decide) (q := hM0) ?_
  exact f_ret X0 hx hlk (i := .ireturn) hret rfl (Or.inl ⟨rfl, Or.inl rfl, _, rfl⟩) (hb Y d0_6) (QQ := (QV (.int v0_) h0 n0)) ⟨rfl, N0, e0⟩ (by decide) (by decide)
theorem q7 (l : Launch) (Z : State) (a0 : Array Value) (hw : HW a0 Z) (ws : List Jvm.Cond) (h0 : Heap) (n0 : Nat) (p1 : Int32) (v1_ : Int32) (hM1 : ((p1 &&& (2147483647 : Int32)) % (3 : Int32)) = v1_) :
    MC l Z y0 method_2_code 1 (some .int) ws rm_0_0_0_0 #[(.int p1)] h0 (QV (.int v1_) h0 n0) := by
  refine own_met (plainFor_of_name pn0) fun p e s m below meth c s₁ X0 hx hZ Y hml hO hnm hlk hret e0 => f_cast (f' := mkF m 0 #[(iv p1)] []) (by first | (simp [entryFrame, mkF, argsToLocals, Value.category]; done) | rfl) ?_
  have N0 := Fr.nil n0
  refine iN X0 hx (hb Y d0_0) rfl <| f_ldc X0 hx hZ hO (w4 hw) (hb Y d0_1) <| f_iand X0 hx (z := (p1 &&& (2147483647 : Int32))) (hb Y d0_3) (q := rfl) <| iK X0 hx (z := 3) (hb Y d0_4) <| f_irem X0 hx (z := v1_) (hb Y d0_5) (by decide) (q := hM1) ?_
  exact f_ret X0 hx hlk (i := .ireturn) hret rfl (Or.inl ⟨rfl, Or.inl rfl, _, rfl⟩) (hb Y d0_6) (QQ := (QV (.int v1_) h0 n0)) ⟨rfl, N0, e0⟩ (by decide) (by decide)
theorem q9 (l : Launch) (Z : State) (a0 : Array Value) (hw : HW a0 Z) (ws : List Jvm.Cond) (h0 : Heap) (n0 : Nat) (p2 : Int32) (v2_ : Int32) (hM2 : ((p2 &&& (2147483647 : Int32)) % (3 : Int32)) = v2_) :
    MC l Z y0 method_2_code 1 (some .int) ws rm_0_0_0_0 #[(.int p2)] h0 (QV (.int v2_) h0 n0) := by
  refine own_met (plainFor_of_name pn0) fun p e s m below meth c s₁ X0 hx hZ Y hml hO hnm hlk hret e0 => f_cast (f' := mkF m 0 #[(iv p2)] []) (by first | (simp [entryFrame, mkF, argsToLocals, Value.category]; done) | rfl) ?_
  have N0 := Fr.nil n0
  refine iN X0 hx (hb Y d0_0) rfl <| f_ldc X0 hx hZ hO (w4 hw) (hb Y d0_1) <| f_iand X0 hx (z := (p2 &&& (2147483647 : Int32))) (hb Y d0_3) (q := rfl) <| iK X0 hx (z := 3) (hb Y d0_4) <| f_irem X0 hx (z := v2_) (hb Y d0_5) (by decide) (q := hM2) ?_
  exact f_ret X0 hx hlk (i := .ireturn) hret rfl (Or.inl ⟨rfl, Or.inl rfl, _, rfl⟩) (hb Y d0_6) (QQ := (QV (.int v2_) h0 n0)) ⟨rfl, N0, e0⟩ (by decide) (by decide)
theorem q11 (l : Launch) (Z : State) (a0 : Array Value) (hw : HW a0 Z) (ws : List Jvm.Cond) (h0 : Heap) (n0 : Nat) (p3 : Int32) (v3_ : Int32) (hM3 : ((p3 &&& (2147483647 : Int32)) % (3 : Int32)) = v3_) :
    MC l Z y0 method_2_code 1 (some .int) ws rm_0_0_0_0 #[(.int p3)] h0 (QV (.int v3_) h0 n0) := by
  refine own_met (plainFor_of_name pn0) fun p e s m below meth c s₁ X0 hx hZ Y hml hO hnm hlk hret e0 => f_cast (f' := mkF m 0 #[(iv p3)] []) (by first | (simp [entryFrame, mkF, argsToLocals, Value.category]; done) | rfl) ?_
  have N0 := Fr.nil n0
  refine iN X0 hx (hb Y d0_0) rfl <| f_ldc X0 hx hZ hO (w4 hw) (hb Y d0_1) <| f_iand X0 hx (z := (p3 &&& (2147483647 : Int32))) (hb Y d0_3) (q := rfl) <| iK X0 hx (z := 3) (hb Y d0_4) <| f_irem X0 hx (z := v3_) (hb Y d0_5) (by decide) (q := hM3) ?_
  exact f_ret X0 hx hlk (i := .ireturn) hret rfl (Or.inl ⟨rfl, Or.inl rfl, _, rfl⟩) (hb Y d0_6) (QQ := (QV (.int v3_) h0 n0)) ⟨rfl, N0, e0⟩ (by decide) (by decide)
def St1 (Z : State) (h : Heap) (n0 : Nat) (s_WIN : Nat) (s_LOSS : Nat) (s_DRAW : Nat) (s_SW : Nat) (s_EM : Nat) (c1 : Nat) (k901 : ClassId) (k902 : ClassId) : Prop :=
  Sta Z h cR "WIN" "Lcom/example/gamesmith/gamesmith/game/Result;" (.ref s_WIN) ∧
  Sta Z h cR "LOSS" "Lcom/example/gamesmith/gamesmith/game/Result;" (.ref s_LOSS) ∧
  Sta Z h cR "DRAW" "Lcom/example/gamesmith/gamesmith/game/Result;" (.ref s_DRAW) ∧
  Sta Z h "com/example/gamesmith/gamesmith/arena/Tally$1" "$SwitchMap$com$example$gamesmith$gamesmith$game$Result" "[I" (.ref s_SW) ∧
  Sta Z h cA "DEFAULTCAPACITY_EMPTY_ELEMENTDATA" "[Ljava/lang/Object;" (.ref s_EM) ∧
  Exa Z h s_WIN cR ∧
  Fld Z h s_WIN "java/lang/Enum" "ordinal" "I" (.int 0) ∧
  Exa Z h s_LOSS cR ∧
  Fld Z h s_LOSS "java/lang/Enum" "ordinal" "I" (.int 1) ∧
  Exa Z h s_DRAW cR ∧
  Fld Z h s_DRAW "java/lang/Enum" "ordinal" "I" (.int 2) ∧
  Arv Z h s_SW k901 .int 3 [(.int 1), (.int 3), (.int 2)] (.int 0) ∧
  Arv Z h s_EM k902 (.object "java/lang/Object") 0 [] .null ∧
  Exa Z h c1 cT ∧
  Fld Z h c1 cT "wins" "[I" .null ∧
  Fld Z h c1 cT "draws" "[I" .null ∧
  Fld Z h c1 cT "losses" "[I" .null ∧
  Fld Z h c1 cT "matches" "I" (.int 0) ∧
  Fld Z h c1 cT "drawnMatches" "I" (.int 0) ∧
  n0 ≤ c1 ∧
  s_WIN < n0 ∧
  s_LOSS < n0 ∧
  s_DRAW < n0 ∧
  s_SW < n0 ∧
  s_EM < n0
def St2 (Z : State) (h : Heap) (n0 : Nat) (s_WIN : Nat) (s_LOSS : Nat) (s_DRAW : Nat) (s_SW : Nat) (s_EM : Nat) (c1 : Nat) (b22 : Nat) (b24 : Nat) (b26 : Nat) (k901 : ClassId) (k902 : ClassId) (kb22 : ClassId) (kb24 : ClassId) (kb26 : ClassId) : Prop :=
  Sta Z h cR "WIN" "Lcom/example/gamesmith/gamesmith/game/Result;" (.ref s_WIN) ∧
  Sta Z h cR "LOSS" "Lcom/example/gamesmith/gamesmith/game/Result;" (.ref s_LOSS) ∧
  Sta Z h cR "DRAW" "Lcom/example/gamesmith/gamesmith/game/Result;" (.ref s_DRAW) ∧
  Sta Z h "com/example/gamesmith/gamesmith/arena/Tally$1" "$SwitchMap$com$example$gamesmith$gamesmith$game$Result" "[I" (.ref s_SW) ∧
  Sta Z h cA "DEFAULTCAPACITY_EMPTY_ELEMENTDATA" "[Ljava/lang/Object;" (.ref s_EM) ∧
  Exa Z h s_WIN cR ∧
  Fld Z h s_WIN "java/lang/Enum" "ordinal" "I" (.int 0) ∧
  Exa Z h s_LOSS cR ∧
  Fld Z h s_LOSS "java/lang/Enum" "ordinal" "I" (.int 1) ∧
  Exa Z h s_DRAW cR ∧
  Fld Z h s_DRAW "java/lang/Enum" "ordinal" "I" (.int 2) ∧
  Arv Z h s_SW k901 .int 3 [(.int 1), (.int 3), (.int 2)] (.int 0) ∧
  Arv Z h s_EM k902 (.object "java/lang/Object") 0 [] .null ∧
  Exa Z h c1 cT ∧
  Fld Z h c1 cT "wins" "[I" (.ref b22) ∧
  Fld Z h c1 cT "draws" "[I" (.ref b24) ∧
  Fld Z h c1 cT "losses" "[I" (.ref b26) ∧
  Fld Z h c1 cT "matches" "I" (.int 0) ∧
  Fld Z h c1 cT "drawnMatches" "I" (.int 0) ∧
  Arv Z h b22 kb22 .int 2 [(.int 0), (.int 0)] (.int 0) ∧
  Arv Z h b24 kb24 .int 2 [(.int 0), (.int 0)] (.int 0) ∧
  Arv Z h b26 kb26 .int 2 [(.int 0), (.int 0)] (.int 0) ∧
  n0 ≤ c1 ∧
  c1 < b22 ∧
  b22 < b24 ∧
  b24 < b26 ∧
  s_WIN < n0 ∧
  s_LOSS < n0 ∧
  s_DRAW < n0 ∧
  s_SW < n0 ∧
  s_EM < n0
def Qm28 (Z : State) (n0 : Nat) (s_WIN : Nat) (s_LOSS : Nat) (s_DRAW : Nat) (s_SW : Nat) (s_EM : Nat) (c1 : Nat) (k901 : ClassId) (k902 : ClassId) (v : Option Value) (h : Heap) (L : List Loc) : Prop := ∃ (kb22 : ClassId) (b22 : Nat) (kb24 : ClassId) (b24 : Nat) (kb26 : ClassId) (b26 : Nat), v = none ∧ Fr n0 L ∧ St2 Z h n0 s_WIN s_LOSS s_DRAW s_SW s_EM c1 b22 b24 b26 k901 k902 kb22 kb24 kb26
theorem m28 (l : Launch) (Z : State) (a0 : Array Value) (hw : HW a0 Z) (ws : List Jvm.Cond) (h0 : Heap) (n0 : Nat) (s_WIN : Nat) (s_LOSS : Nat) (s_DRAW : Nat) (s_SW : Nat) (s_EM : Nat) (c1 : Nat) (k901 : ClassId) (k902 : ClassId) (P : St1 Z h0 n0 s_WIN s_LOSS s_DRAW s_SW s_EM c1 k901 k902) :
    MC l Z y1 prog_6_method_1_code 2 none ws rm_1_3_6_12 #[(.ref c1), (.int 2)] h0 (Qm28 Z n0 s_WIN s_LOSS s_DRAW s_SW s_EM c1 k901 k902) := by
  obtain ⟨S_WIN, S_LOSS, S_DRAW, S__SwitchMap_com_example_g, S_DEFAULTCAPACITY_EMPTY_EL, E_s_WIN, F_s_WIN_ordinal, E_s_LOSS, F_s_LOSS_ordinal, E_s_DRAW, F_s_DRAW_ordinal, V_s_SW, V_s_EM, E_c1, F_c1_wins, F_c1_draws, F_c1_losses, F_c1_matches, F_c1_drawnMatches, g_c1, od_s_WIN, od_s_LOSS, od_s_DRAW, od_s_SW, od_s_EM⟩ := id P
  refine own_met (plainFor_of_name pn1) fun p e s m below meth c s₁ X0 hx hZ Y hml hO hnm hlk hret e0 => f_cast (f' := mkF m 0 #[(rv c1), (iv 2)] []) (by first | (simp [entryFrame, mkF, argsToLocals, Value.category]; done) | rfl) ?_
  have N0 := Fr.nil n0
  refine aN X0 hx (hb Y d1_0) rfl rfl ?_
  obtain ⟨T21, X21, e21, st21⟩ := initO X0 hx hZ hO (w11 hw) (w12 hw) (w13 hw) e0 (g := (mkF m 1 #[(rv c1), (iv 2)] [(.ref c1)])) rfl (by rw [hml]; rfl) rfl (hb Y d1_1) (by decide) (W := 0) (by show 2 * 0 + _ ≤ _; exact Nat.le_of_eq rfl) (by decide)
  refine f_by st21 <| iN X21 hx (hb Y d1_4) rfl <| iK X21 hx (z := 1) (hb Y d1_5) <| cY X21 hx (pc := 6) 19 (hb Y d1_6) <| aN X21 hx (hb Y d1_19) rfl rfl <| iN X21 hx (hb Y d1_20) rfl <| f_newP X21 hx hZ (aty := .int) (w14 hw) e21 (hb Y d1_21) 2 fun T22 h22 kb22 b22 g22 X22 e22 E22 V_b22 => ?_
  have lt_c1_b22 : c1 < b22 := by have := own_ltE E_c1; omega
  replace F_c1_wins := (fe E22 F_c1_wins)
  replace E_c1 := (xe E22 E_c1)
  refine f_putF X22 hx hZ hO (w15 hw) Via.refl e22 F_c1_wins E_c1 (Or.inr ⟨(w16 hw), rfl, hnm⟩) (w6 hw) (ty := (.array .int)) (by decide) rfl rfl (hb Y d1_23) fun T23 h23 X23 e23 W23 => ?_
  have N23x := Fr.snoc X23 N0 (by omega : n0 ≤ c1)
  refine aN X23 hx (hb Y d1_26) rfl rfl <| iN X23 hx (hb Y d1_27) rfl <| f_newP X23 hx hZ (aty := .int) (w14 hw) e23 (hb Y d1_28) 2 fun T24 h24 kb24 b24 g24 X24 e24 E24 V_b24 => ?_
  have lt_b22_b24 : b22 < b24 := by have := own_ltV (vo V_b22 W23); omega
  replace F_c1_draws := (fe E24 (Fld.other W23 (fe E22 F_c1_draws) (Or.inr (slot_ne (Or.inr (w18 hw)) (Or.inr (w16 hw)) (by decide) (t := (.array .int)) (t' := (.array .int)) (by decide) (by decide)))))
  replace E_c1 := (xe E24 (xw W23 E_c1))
  refine f_putF X24 hx hZ hO (w17 hw) Via.refl e24 F_c1_draws E_c1 (Or.inr ⟨(w18 hw), rfl, hnm⟩) (w6 hw) (ty := (.array .int)) (by decide) rfl rfl (hb Y d1_30) fun T25 h25 X25 e25 W25 => ?_
  have N25x := Fr.snoc X25 N23x (by omega : n0 ≤ c1)
  refine aN X25 hx (hb Y d1_33) rfl rfl <| iN X25 hx (hb Y d1_34) rfl <| f_newP X25 hx hZ (aty := .int) (w14 hw) e25 (hb Y d1_35) 2 fun T26 h26 kb26 b26 g26 X26 e26 E26 V_b26 => ?_
  have lt_b24_b26 : b24 < b26 := by have := own_ltV (vo V_b24 W25); omega
  replace F_c1_losses := (fe E26 (Fld.other W25 (fe E24 (Fld.other W23 (fe E22 F_c1_losses) (Or.inr (slot_ne (Or.inr (w20 hw)) (Or.inr (w16 hw)) (by decide) (t := (.array .int)) (t' := (.array .int)) (by decide) (by decide))))) (Or.inr (slot_ne (Or.inr (w20 hw)) (Or.inr (w18 hw)) (by decide) (t := (.array .int)) (t' := (.array .int)) (by decide) (by decide)))))
  replace E_c1 := (xe E26 (xw W25 E_c1))
  refine f_putF X26 hx hZ hO (w19 hw) Via.refl e26 F_c1_losses E_c1 (Or.inr ⟨(w20 hw), rfl, hnm⟩) (w6 hw) (ty := (.array .int)) (by decide) rfl rfl (hb Y d1_37) fun T27 h27 X27 e27 W27 => ?_
  have N27x := Fr.snoc X27 N25x (by omega : n0 ≤ c1)
  exact f_ret0 X27 hx hlk hret (hb Y d1_40) (QQ := (Qm28 Z n0 s_WIN s_LOSS s_DRAW s_SW s_EM c1 k901 k902)) (by rw [e27]; exact ⟨kb22, b22, kb24, b24, kb26, b26, rfl, N27x, (Sta.wr W27 (Sta.ext E26 (Sta.wr W25 (Sta.ext E24 (Sta.wr W23 (Sta.ext E22 S_WIN)))))), (Sta.wr W27 (Sta.ext E26 (Sta.wr W25 (Sta.ext E24 (Sta.wr W23 (Sta.ext E22 S_LOSS)))))), (Sta.wr W27 (Sta.ext E26 (Sta.wr W25 (Sta.ext E24 (Sta.wr W23 (Sta.ext E22 S_DRAW)))))), (Sta.wr W27 (Sta.ext E26 (Sta.wr W25 (Sta.ext E24 (Sta.wr W23 (Sta.ext E22 S__SwitchMap_com_example_g)))))), (Sta.wr W27 (Sta.ext E26 (Sta.wr W25 (Sta.ext E24 (Sta.wr W23 (Sta.ext E22 S_DEFAULTCAPACITY_EMPTY_EL)))))), (xw W27 (xe E26 (xw W25 (xe E24 (xw W23 (xe E22 E_s_WIN)))))), (fo W27 (fe E26 (fo W25 (fe E24 (fo W23 (fe E22 F_s_WIN_ordinal)))))), (xw W27 (xe E26 (xw W25 (xe E24 (xw W23 (xe E22 E_s_LOSS)))))), (fo W27 (fe E26 (fo W25 (fe E24 (fo W23 (fe E22 F_s_LOSS_ordinal)))))), (xw W27 (xe E26 (xw W25 (xe E24 (xw W23 (xe E22 E_s_DRAW)))))), (fo W27 (fe E26 (fo W25 (fe E24 (fo W23 (fe E22 F_s_DRAW_ordinal)))))), (vo (ve (vo (ve (vo (ve V_s_SW E22) W23) E24) W25) E26) W27), (vo (ve (vo (ve (vo (ve V_s_EM E22) W23) E24) W25) E26) W27), (xw W27 E_c1), (Fld.other W27 (fe E26 (Fld.other W25 (fe E24 (Fld.same W23 F_c1_wins)) (Or.inr (slot_ne (Or.inr (w16 hw)) (Or.inr (w18 hw)) (by decide) (t := (.array .int)) (t' := (.array .int)) (by decide) (by decide))))) (Or.inr (slot_ne (Or.inr (w16 hw)) (Or.inr (w20 hw)) (by decide) (t := (.array .int)) (t' := (.array .int)) (by decide) (by decide)))), (Fld.other W27 (fe E26 (Fld.same W25 F_c1_draws)) (Or.inr (slot_ne (Or.inr (w18 hw)) (Or.inr (w20 hw)) (by decide) (t := (.array .int)) (t' := (.array .int)) (by decide) (by decide)))), (Fld.same W27 F_c1_losses), (Fld.other W27 (fe E26 (Fld.other W25 (fe E24 (Fld.other W23 (fe E22 F_c1_matches) (Or.inr (slot_ne (Or.inl (w136 hw)) (Or.inr (w16 hw)) (by decide) (t := .int) (t' := (.array .int)) (by decide) (by decide))))) (Or.inr (slot_ne (Or.inl (w136 hw)) (Or.inr (w18 hw)) (by decide) (t := .int) (t' := (.array .int)) (by decide) (by decide))))) (Or.inr (slot_ne (Or.inl (w136 hw)) (Or.inr (w20 hw)) (by decide) (t := .int) (t' := (.array .int)) (by decide) (by decide)))), (Fld.other W27 (fe E26 (Fld.other W25 (fe E24 (Fld.other W23 (fe E22 F_c1_drawnMatches) (Or.inr (slot_ne (Or.inl (w143 hw)) (Or.inr (w16 hw)) (by decide) (t := .int) (t' := (.array .int)) (by decide) (by decide))))) (Or.inr (slot_ne (Or.inl (w143 hw)) (Or.inr (w18 hw)) (by decide) (t := .int) (t' := (.array .int)) (by decide) (by decide))))) (Or.inr (slot_ne (Or.inl (w143 hw)) (Or.inr (w20 hw)) (by decide) (t := .int) (t' := (.array .int)) (by decide) (by decide)))), (vo (ve (vo (ve (vo V_b22 W23) E24) W25) E26) W27), (vo (ve (vo V_b24 W25) E26) W27), (vo V_b26 W27), g_c1, lt_c1_b22, lt_b22_b24, lt_b24_b26, od_s_WIN, od_s_LOSS, od_s_DRAW, od_s_SW, od_s_EM⟩) (by decide) (by decide)
def St3 (Z : State) (h : Heap) (n0 : Nat) (s_WIN : Nat) (s_LOSS : Nat) (s_DRAW : Nat) (s_SW : Nat) (s_EM : Nat) (c1 : Nat) (c2 : Nat) (c3 : Nat) (c4 : Nat) (c5 : Nat) (k901 : ClassId) (k902 : ClassId) (kc1 : ClassId) (kc2 : ClassId) (kc3 : ClassId) : Prop :=
  Sta Z h cR "WIN" "Lcom/example/gamesmith/gamesmith/game/Result;" (.ref s_WIN) ∧
  Sta Z h cR "LOSS" "Lcom/example/gamesmith/gamesmith/game/Result;" (.ref s_LOSS) ∧
  Sta Z h cR "DRAW" "Lcom/example/gamesmith/gamesmith/game/Result;" (.ref s_DRAW) ∧
  Sta Z h "com/example/gamesmith/gamesmith/arena/Tally$1" "$SwitchMap$com$example$gamesmith$gamesmith$game$Result" "[I" (.ref s_SW) ∧
  Sta Z h cA "DEFAULTCAPACITY_EMPTY_ELEMENTDATA" "[Ljava/lang/Object;" (.ref s_EM) ∧
  Exa Z h s_WIN cR ∧
  Fld Z h s_WIN "java/lang/Enum" "ordinal" "I" (.int 0) ∧
  Exa Z h s_LOSS cR ∧
  Fld Z h s_LOSS "java/lang/Enum" "ordinal" "I" (.int 1) ∧
  Exa Z h s_DRAW cR ∧
  Fld Z h s_DRAW "java/lang/Enum" "ordinal" "I" (.int 2) ∧
  Arv Z h s_SW k901 .int 3 [(.int 1), (.int 3), (.int 2)] (.int 0) ∧
  Arv Z h s_EM k902 (.object "java/lang/Object") 0 [] .null ∧
  Exa Z h c1 cT ∧
  Fld Z h c1 cT "wins" "[I" (.ref c2) ∧
  Fld Z h c1 cT "draws" "[I" (.ref c3) ∧
  Fld Z h c1 cT "losses" "[I" (.ref c4) ∧
  Fld Z h c1 cT "matches" "I" (.int 0) ∧
  Fld Z h c1 cT "drawnMatches" "I" (.int 0) ∧
  Arv Z h c2 kc1 .int 2 [(.int 0), (.int 0)] (.int 0) ∧
  Arv Z h c3 kc2 .int 2 [(.int 0), (.int 0)] (.int 0) ∧
  Arv Z h c4 kc3 .int 2 [(.int 0), (.int 0)] (.int 0) ∧
  Exa Z h c5 cT ∧
  Fld Z h c5 cT "wins" "[I" .null ∧
  Fld Z h c5 cT "draws" "[I" .null ∧
  Fld Z h c5 cT "losses" "[I" .null ∧
  Fld Z h c5 cT "matches" "I" (.int 0) ∧
  Fld Z h c5 cT "drawnMatches" "I" (.int 0) ∧
  n0 ≤ c1 ∧
  c1 < c2 ∧
  c2 < c3 ∧
  c3 < c4 ∧
  c4 < c5 ∧
  s_WIN < n0 ∧
  s_LOSS < n0 ∧
  s_DRAW < n0 ∧
  s_SW < n0 ∧
  s_EM < n0
def St4 (Z : State) (h : Heap) (n0 : Nat) (s_WIN : Nat) (s_LOSS : Nat) (s_DRAW : Nat) (s_SW : Nat) (s_EM : Nat) (c1 : Nat) (c2 : Nat) (c3 : Nat) (c4 : Nat) (c5 : Nat) (b46 : Nat) (b48 : Nat) (b50 : Nat) (k901 : ClassId) (k902 : ClassId) (kc1 : ClassId) (kc2 : ClassId) (kc3 : ClassId) (kb46 : ClassId) (kb48 : ClassId) (kb50 : ClassId) : Prop :=
  Sta Z h cR "WIN" "Lcom/example/gamesmith/gamesmith/game/Result;" (.ref s_WIN) ∧
  Sta Z h cR "LOSS" "Lcom/example/gamesmith/gamesmith/game/Result;" (.ref s_LOSS) ∧
  Sta Z h cR "DRAW" "Lcom/example/gamesmith/gamesmith/game/Result;" (.ref s_DRAW) ∧
  Sta Z h "com/example/gamesmith/gamesmith/arena/Tally$1" "$SwitchMap$com$example$gamesmith$gamesmith$game$Result" "[I" (.ref s_SW) ∧
  Sta Z h cA "DEFAULTCAPACITY_EMPTY_ELEMENTDATA" "[Ljava/lang/Object;" (.ref s_EM) ∧
  Exa Z h s_WIN cR ∧
  Fld Z h s_WIN "java/lang/Enum" "ordinal" "I" (.int 0) ∧
  Exa Z h s_LOSS cR ∧
  Fld Z h s_LOSS "java/lang/Enum" "ordinal" "I" (.int 1) ∧
  Exa Z h s_DRAW cR ∧
  Fld Z h s_DRAW "java/lang/Enum" "ordinal" "I" (.int 2) ∧
  Arv Z h s_SW k901 .int 3 [(.int 1), (.int 3), (.int 2)] (.int 0) ∧
  Arv Z h s_EM k902 (.object "java/lang/Object") 0 [] .null ∧
  Exa Z h c1 cT ∧
  Fld Z h c1 cT "wins" "[I" (.ref c2) ∧
  Fld Z h c1 cT "draws" "[I" (.ref c3) ∧
  Fld Z h c1 cT "losses" "[I" (.ref c4) ∧
  Fld Z h c1 cT "matches" "I" (.int 0) ∧
  Fld Z h c1 cT "drawnMatches" "I" (.int 0) ∧
  Arv Z h c2 kc1 .int 2 [(.int 0), (.int 0)] (.int 0) ∧
  Arv Z h c3 kc2 .int 2 [(.int 0), (.int 0)] (.int 0) ∧
  Arv Z h c4 kc3 .int 2 [(.int 0), (.int 0)] (.int 0) ∧
  Exa Z h c5 cT ∧
  Fld Z h c5 cT "wins" "[I" (.ref b46) ∧
  Fld Z h c5 cT "draws" "[I" (.ref b48) ∧
  Fld Z h c5 cT "losses" "[I" (.ref b50) ∧
  Fld Z h c5 cT "matches" "I" (.int 0) ∧
  Fld Z h c5 cT "drawnMatches" "I" (.int 0) ∧
  Arv Z h b46 kb46 .int 2 [(.int 0), (.int 0)] (.int 0) ∧
  Arv Z h b48 kb48 .int 2 [(.int 0), (.int 0)] (.int 0) ∧
  Arv Z h b50 kb50 .int 2 [(.int 0), (.int 0)] (.int 0) ∧
  n0 ≤ c1 ∧
  c1 < c2 ∧
  c2 < c3 ∧
  c3 < c4 ∧
  c4 < c5 ∧
  c5 < b46 ∧
  b46 < b48 ∧
  b48 < b50 ∧
  s_WIN < n0 ∧
  s_LOSS < n0 ∧
  s_DRAW < n0 ∧
  s_SW < n0 ∧
  s_EM < n0
def Qm52 (Z : State) (n0 : Nat) (s_WIN : Nat) (s_LOSS : Nat) (s_DRAW : Nat) (s_SW : Nat) (s_EM : Nat) (c1 : Nat) (c2 : Nat) (c3 : Nat) (c4 : Nat) (c5 : Nat) (k901 : ClassId) (k902 : ClassId) (kc1 : ClassId) (kc2 : ClassId) (kc3 : ClassId) (v : Option Value) (h : Heap) (L : List Loc) : Prop := ∃ (kb46 : ClassId) (b46 : Nat) (kb48 : ClassId) (b48 : Nat) (kb50 : ClassId) (b50 : Nat), v = none ∧ Fr n0 L ∧ St4 Z h n0 s_WIN s_LOSS s_DRAW s_SW s_EM c1 c2 c3 c4 c5 b46 b48 b50 k901 k902 kc1 kc2 kc3 kb46 kb48 kb50
theorem m52 (l : Launch) (Z : State) (a0 : Array Value) (hw : HW a0 Z) (ws : List Jvm.Cond) (h0 : Heap) (n0 : Nat) (s_WIN : Nat) (s_LOSS : Nat) (s_DRAW : Nat) (s_SW : Nat) (s_EM : Nat) (c1 : Nat) (c2 : Nat) (c3 : Nat) (c4 : Nat) (c5 : Nat) (k901 : ClassId) (k902 : ClassId) (kc1 : ClassId) (kc2 : ClassId) (kc3 : ClassId) (P : St3 Z h0 n0 s_WIN s_LOSS s_DRAW s_SW s_EM c1 c2 c3 c4 c5 k901 k902 kc1 kc2 kc3) :
    MC l Z y1 prog_6_method_1_code 2 none ws rm_1_3_6_12 #[(.ref c5), (.int 2)] h0 (Qm52 Z n0 s_WIN s_LOSS s_DRAW s_SW s_EM c1 c2 c3 c4 c5 k901 k902 kc1 kc2 kc3) := by
  obtain ⟨S_WIN, S_LOSS, S_DRAW, S__SwitchMap_com_example_g, S_DEFAULTCAPACITY_EMPTY_EL, E_s_WIN, F_s_WIN_ordinal, E_s_LOSS, F_s_LOSS_ordinal, E_s_DRAW, F_s_DRAW_ordinal, V_s_SW, V_s_EM, E_c1, F_c1_wins, F_c1_draws, F_c1_losses, F_c1_matches, F_c1_drawnMatches, V_c2, V_c3, V_c4, E_c5, F_c5_wins, F_c5_draws, F_c5_losses, F_c5_matches, F_c5_drawnMatches, g_c1, lt_c1_c2, lt_c2_c3, lt_c3_c4, lt_c4_c5, od_s_WIN, od_s_LOSS, od_s_DRAW, od_s_SW, od_s_EM⟩ := id P
  refine own_met (plainFor_of_name pn1) fun p e s m below meth c s₁ X0 hx hZ Y hml hO hnm hlk hret e0 => f_cast (f' := mkF m 0 #[(rv c5), (iv 2)] []) (by first | (simp [entryFrame, mkF, argsToLocals, Value.category]; done) | rfl) ?_
  have N0 := Fr.nil n0
  refine aN X0 hx (hb Y d1_0) rfl rfl ?_
  obtain ⟨T45, X45, e45, st45⟩ := initO X0 hx hZ hO (w11 hw) (w12 hw) (w13 hw) e0 (g := (mkF m 1 #[(rv c5), (iv 2)] [(.ref c5)])) rfl (by rw [hml]; rfl) rfl (hb Y d1_1) (by decide) (W := 0) (by show 2 * 0 + _ ≤ _; exact Nat.le_of_eq rfl) (by decide)
  refine f_by st45 <| iN X45 hx (hb Y d1_4) rfl <| iK X45 hx (z := 1) (hb Y d1_5) <| cY X45 hx (pc := 6) 19 (hb Y d1_6) <| aN X45 hx (hb Y d1_19) rfl rfl <| iN X45 hx (hb Y d1_20) rfl <| f_newP X45 hx hZ (aty := .int) (w14 hw) e45 (hb Y d1_21) 2 fun T46 h46 kb46 b46 g46 X46 e46 E46 V_b46 => ?_
  have lt_c5_b46 : c5 < b46 := by have := own_ltE E_c5; omega
  replace F_c5_wins := (fe E46 F_c5_wins)
  replace E_c5 := (xe E46 E_c5)
  refine f_putF X46 hx hZ hO (w15 hw) Via.refl e46 F_c5_wins E_c5 (Or.inr ⟨(w16 hw), rfl, hnm⟩) (w6 hw) (ty := (.array .int)) (by decide) rfl rfl (hb Y d1_23) fun T47 h47 X47 e47 W47 => ?_
  have N47x := Fr.snoc X47 N0 (by omega : n0 ≤ c5)
  refine aN X47 hx (hb Y d1_26) rfl rfl <| iN X47 hx (hb Y d1_27) rfl <| f_newP X47 hx hZ (aty := .int) (w14 hw) e47 (hb Y d1_28) 2 fun T48 h48 kb48 b48 g48 X48 e48 E48 V_b48 => ?_
  have lt_b46_b48 : b46 < b48 := by have := own_ltV (vo V_b46 W47); omega
  replace F_c5_draws := (fe E48 (Fld.other W47 (fe E46 F_c5_draws) (Or.inr (slot_ne (Or.inr (w18 hw)) (Or.inr (w16 hw)) (by decide) (t := (.array .int)) (t' := (.array .int)) (by decide) (by decide)))))
  replace E_c5 := (xe E48 (xw W47 E_c5))
  refine f_putF X48 hx hZ hO (w17 hw) Via.refl e48 F_c5_draws E_c5 (Or.inr ⟨(w18 hw), rfl, hnm⟩) (w6 hw) (ty := (.array .int)) (by decide) rfl rfl (hb Y d1_30) fun T49 h49 X49 e49 W49 => ?_
  have N49x := Fr.snoc X49 N47x (by omega : n0 ≤ c5)
  refine aN X49 hx (hb Y d1_33) rfl rfl <| iN X49 hx (hb Y d1_34) rfl <| f_newP X49 hx hZ (aty := .int) (w14 hw) e49 (hb Y d1_35) 2 fun T50 h50 kb50 b50 g50 X50 e50 E50 V_b50 => ?_
  have lt_b48_b50 : b48 < b50 := by have := own_ltV (vo V_b48 W49); omega
  replace F_c5_losses := (fe E50 (Fld.other W49 (fe E48 (Fld.other W47 (fe E46 F_c5_losses) (Or.inr (slot_ne (Or.inr (w20 hw)) (Or.inr (w16 hw)) (by decide) (t := (.array .int)) (t' := (.array .int)) (by decide) (by decide))))) (Or.inr (slot_ne (Or.inr (w20 hw)) (Or.inr (w18 hw)) (by decide) (t := (.array .int)) (t' := (.array .int)) (by decide) (by decide)))))
  replace E_c5 := (xe E50 (xw W49 E_c5))
  refine f_putF X50 hx hZ hO (w19 hw) Via.refl e50 F_c5_losses E_c5 (Or.inr ⟨(w20 hw), rfl, hnm⟩) (w6 hw) (ty := (.array .int)) (by decide) rfl rfl (hb Y d1_37) fun T51 h51 X51 e51 W51 => ?_
  have N51x := Fr.snoc X51 N49x (by omega : n0 ≤ c5)
  exact f_ret0 X51 hx hlk hret (hb Y d1_40) (QQ := (Qm52 Z n0 s_WIN s_LOSS s_DRAW s_SW s_EM c1 c2 c3 c4 c5 k901 k902 kc1 kc2 kc3)) (by rw [e51]; exact ⟨kb46, b46, kb48, b48, kb50, b50, rfl, N51x, (Sta.wr W51 (Sta.ext E50 (Sta.wr W49 (Sta.ext E48 (Sta.wr W47 (Sta.ext E46 S_WIN)))))), (Sta.wr W51 (Sta.ext E50 (Sta.wr W49 (Sta.ext E48 (Sta.wr W47 (Sta.ext E46 S_LOSS)))))), (Sta.wr W51 (Sta.ext E50 (Sta.wr W49 (Sta.ext E48 (Sta.wr W47 (Sta.ext E46 S_DRAW)))))), (Sta.wr W51 (Sta.ext E50 (Sta.wr W49 (Sta.ext E48 (Sta.wr W47 (Sta.ext E46 S__SwitchMap_com_example_g)))))), (Sta.wr W51 (Sta.ext E50 (Sta.wr W49 (Sta.ext E48 (Sta.wr W47 (Sta.ext E46 S_DEFAULTCAPACITY_EMPTY_EL)))))), (xw W51 (xe E50 (xw W49 (xe E48 (xw W47 (xe E46 E_s_WIN)))))), (fo W51 (fe E50 (fo W49 (fe E48 (fo W47 (fe E46 F_s_WIN_ordinal)))))), (xw W51 (xe E50 (xw W49 (xe E48 (xw W47 (xe E46 E_s_LOSS)))))), (fo W51 (fe E50 (fo W49 (fe E48 (fo W47 (fe E46 F_s_LOSS_ordinal)))))), (xw W51 (xe E50 (xw W49 (xe E48 (xw W47 (xe E46 E_s_DRAW)))))), (fo W51 (fe E50 (fo W49 (fe E48 (fo W47 (fe E46 F_s_DRAW_ordinal)))))), (vo (ve (vo (ve (vo (ve V_s_SW E46) W47) E48) W49) E50) W51), (vo (ve (vo (ve (vo (ve V_s_EM E46) W47) E48) W49) E50) W51), (xw W51 (xe E50 (xw W49 (xe E48 (xw W47 (xe E46 E_c1)))))), (fo W51 (fe E50 (fo W49 (fe E48 (fo W47 (fe E46 F_c1_wins)))))), (fo W51 (fe E50 (fo W49 (fe E48 (fo W47 (fe E46 F_c1_draws)))))), (fo W51 (fe E50 (fo W49 (fe E48 (fo W47 (fe E46 F_c1_losses)))))), (fo W51 (fe E50 (fo W49 (fe E48 (fo W47 (fe E46 F_c1_matches)))))), (fo W51 (fe E50 (fo W49 (fe E48 (fo W47 (fe E46 F_c1_drawnMatches)))))), (vo (ve (vo (ve (vo (ve V_c2 E46) W47) E48) W49) E50) W51), (vo (ve (vo (ve (vo (ve V_c3 E46) W47) E48) W49) E50) W51), (vo (ve (vo (ve (vo (ve V_c4 E46) W47) E48) W49) E50) W51), (xw W51 E_c5), (Fld.other W51 (fe E50 (Fld.other W49 (fe E48 (Fld.same W47 F_c5_wins)) (Or.inr (slot_ne (Or.inr (w16 hw)) (Or.inr (w18 hw)) (by decide) (t := (.array .int)) (t' := (.array .int)) (by decide) (by decide))))) (Or.inr (slot_ne (Or.inr (w16 hw)) (Or.inr (w20 hw)) (by decide) (t := (.array .int)) (t' := (.array .int)) (by decide) (by decide)))), (Fld.other W51 (fe E50 (Fld.same W49 F_c5_draws)) (Or.inr (slot_ne (Or.inr (w18 hw)) (Or.inr (w20 hw)) (by decide) (t := (.array .int)) (t' := (.array .int)) (by decide) (by decide)))), (Fld.same W51 F_c5_losses), (Fld.other W51 (fe E50 (Fld.other W49 (fe E48 (Fld.other W47 (fe E46 F_c5_matches) (Or.inr (slot_ne (Or.inl (w136 hw)) (Or.inr (w16 hw)) (by decide) (t := .int) (t' := (.array .int)) (by decide) (by decide))))) (Or.inr (slot_ne (Or.inl (w136 hw)) (Or.inr (w18 hw)) (by decide) (t := .int) (t' := (.array .int)) (by decide) (by decide))))) (Or.inr (slot_ne (Or.inl (w136 hw)) (Or.inr (w20 hw)) (by decide) (t := .int) (t' := (.array .int)) (by decide) (by decide)))), (Fld.other W51 (fe E50 (Fld.other W49 (fe E48 (Fld.other W47 (fe E46 F_c5_drawnMatches) (Or.inr (slot_ne (Or.inl (w143 hw)) (Or.inr (w16 hw)) (by decide) (t := .int) (t' := (.array .int)) (by decide) (by decide))))) (Or.inr (slot_ne (Or.inl (w143 hw)) (Or.inr (w18 hw)) (by decide) (t := .int) (t' := (.array .int)) (by decide) (by decide))))) (Or.inr (slot_ne (Or.inl (w143 hw)) (Or.inr (w20 hw)) (by decide) (t := .int) (t' := (.array .int)) (by decide) (by decide)))), (vo (ve (vo (ve (vo V_b46 W47) E48) W49) E50) W51), (vo (ve (vo V_b48 W49) E50) W51), (vo V_b50 W51), g_c1, lt_c1_c2, lt_c2_c3, lt_c3_c4, lt_c4_c5, lt_c5_b46, lt_b46_b48, lt_b48_b50, od_s_WIN, od_s_LOSS, od_s_DRAW, od_s_SW, od_s_EM⟩) (by decide) (by decide)
theorem q82 (l : Launch) (Z : State) (a0 : Array Value) (hw : HW a0 Z) (ws : List Jvm.Cond) (h0 : Heap) (n0 : Nat) (c1 : Nat) :
    MC l Z y5 jdk_22_method_1_code 1 none ws rm_1_0_0_12 #[(.ref c1)] h0 (QV0 h0 n0) := by
  refine own_met (plainFor_of_name pn5) fun p e s m below meth c s₁ X0 hx hZ Y hml hO hnm hlk hret e0 => f_cast (f' := mkF m 0 #[(rv c1)] []) (by first | (simp [entryFrame, mkF, argsToLocals, Value.category]; done) | rfl) ?_
  have N0 := Fr.nil n0
  refine aN X0 hx (hb Y d5_0) rfl rfl ?_
  obtain ⟨T81, X81, e81, st81⟩ := initO X0 hx hZ hO (w39 hw) (w12 hw) (w13 hw) e0 (g := (mkF m 1 #[(rv c1)] [(.ref c1)])) rfl (by rw [hml]; rfl) rfl (hb Y d5_1) (by decide) (W := 0) (by show 2 * 0 + _ ≤ _; exact Nat.le_of_eq rfl) (by decide)
  refine f_by st81 ?_
  exact f_ret0 X81 hx hlk hret (hb Y d5_4) (QQ := (QV0 h0 n0)) ⟨rfl, N0, e81⟩ (by decide) (by decide)
def St5 (Z : State) (h : Heap) (n0 : Nat) (s_WIN : Nat) (s_LOSS : Nat) (s_DRAW : Nat) (s_SW : Nat) (s_EM : Nat) (c1 : Nat) (c2 : Nat) (c3 : Nat) (c4 : Nat) (c5 : Nat) (c6 : Nat) (c7 : Nat) (c8 : Nat) (c9 : Nat) (k901 : ClassId) (k902 : ClassId) (kc1 : ClassId) (kc2 : ClassId) (kc3 : ClassId) (kc4 : ClassId) (kc5 : ClassId) (kc6 : ClassId) : Prop :=
  Sta Z h cR "WIN" "Lcom/example/gamesmith/gamesmith/game/Result;" (.ref s_WIN) ∧
  Sta Z h cR "LOSS" "Lcom/example/gamesmith/gamesmith/game/Result;" (.ref s_LOSS) ∧
  Sta Z h cR "DRAW" "Lcom/example/gamesmith/gamesmith/game/Result;" (.ref s_DRAW) ∧
  Sta Z h "com/example/gamesmith/gamesmith/arena/Tally$1" "$SwitchMap$com$example$gamesmith$gamesmith$game$Result" "[I" (.ref s_SW) ∧
  Sta Z h cA "DEFAULTCAPACITY_EMPTY_ELEMENTDATA" "[Ljava/lang/Object;" (.ref s_EM) ∧
  Exa Z h s_WIN cR ∧
  Fld Z h s_WIN "java/lang/Enum" "ordinal" "I" (.int 0) ∧
  Exa Z h s_LOSS cR ∧
  Fld Z h s_LOSS "java/lang/Enum" "ordinal" "I" (.int 1) ∧
  Exa Z h s_DRAW cR ∧
  Fld Z h s_DRAW "java/lang/Enum" "ordinal" "I" (.int 2) ∧
  Arv Z h s_SW k901 .int 3 [(.int 1), (.int 3), (.int 2)] (.int 0) ∧
  Arv Z h s_EM k902 (.object "java/lang/Object") 0 [] .null ∧
  Exa Z h c1 cT ∧
  Fld Z h c1 cT "wins" "[I" (.ref c2) ∧
  Fld Z h c1 cT "draws" "[I" (.ref c3) ∧
  Fld Z h c1 cT "losses" "[I" (.ref c4) ∧
  Fld Z h c1 cT "matches" "I" (.int 0) ∧
  Fld Z h c1 cT "drawnMatches" "I" (.int 0) ∧
  Arv Z h c2 kc1 .int 2 [(.int 0), (.int 0)] (.int 0) ∧
  Arv Z h c3 kc2 .int 2 [(.int 0), (.int 0)] (.int 0) ∧
  Arv Z h c4 kc3 .int 2 [(.int 0), (.int 0)] (.int 0) ∧
  Exa Z h c5 cT ∧
  Fld Z h c5 cT "wins" "[I" (.ref c6) ∧
  Fld Z h c5 cT "draws" "[I" (.ref c7) ∧
  Fld Z h c5 cT "losses" "[I" (.ref c8) ∧
  Fld Z h c5 cT "matches" "I" (.int 0) ∧
  Fld Z h c5 cT "drawnMatches" "I" (.int 0) ∧
  Arv Z h c6 kc4 .int 2 [(.int 0), (.int 0)] (.int 0) ∧
  Arv Z h c7 kc5 .int 2 [(.int 0), (.int 0)] (.int 0) ∧
  Arv Z h c8 kc6 .int 2 [(.int 0), (.int 0)] (.int 0) ∧
  Exa Z h c9 cA ∧
  Fld Z h c9 "java/util/AbstractList" "modCount" "I" (.int 0) ∧
  Fld Z h c9 cA "elementData" "[Ljava/lang/Object;" .null ∧
  Fld Z h c9 cA "size" "I" (.int 0) ∧
  n0 ≤ c1 ∧
  c1 < c2 ∧
  c2 < c3 ∧
  c3 < c4 ∧
  c4 < c5 ∧
  c5 < c6 ∧
  c6 < c7 ∧
  c7 < c8 ∧
  c8 < c9 ∧
  s_WIN < n0 ∧
  s_LOSS < n0 ∧
  s_DRAW < n0 ∧
  s_SW < n0 ∧
  s_EM < n0
def Qm84 (Z : State) (n0 : Nat) (s_WIN : Nat) (s_LOSS : Nat) (s_DRAW : Nat) (s_SW : Nat) (s_EM : Nat) (c1 : Nat) (c2 : Nat) (c3 : Nat) (c4 : Nat) (c5 : Nat) (c6 : Nat) (c7 : Nat) (c8 : Nat) (c9 : Nat) (k901 : ClassId) (k902 : ClassId) (kc1 : ClassId) (kc2 : ClassId) (kc3 : ClassId) (kc4 : ClassId) (kc5 : ClassId) (kc6 : ClassId) (v : Option Value) (h : Heap) (L : List Loc) : Prop := v = none ∧ Fr n0 L ∧ St5 Z h n0 s_WIN s_LOSS s_DRAW s_SW s_EM c1 c2 c3 c4 c5 c6 c7 c8 c9 k901 k902 kc1 kc2 kc3 kc4 kc5 kc6
theorem m84 (l : Launch) (Z : State) (a0 : Array Value) (hw : HW a0 Z) (ws : List Jvm.Cond) (h0 : Heap) (n0 : Nat) (s_WIN : Nat) (s_LOSS : Nat) (s_DRAW : Nat) (s_SW : Nat) (s_EM : Nat) (c1 : Nat) (c2 : Nat) (c3 : Nat) (c4 : Nat) (c5 : Nat) (c6 : Nat) (c7 : Nat) (c8 : Nat) (c9 : Nat) (k901 : ClassId) (k902 : ClassId) (kc1 : ClassId) (kc2 : ClassId) (kc3 : ClassId) (kc4 : ClassId) (kc5 : ClassId) (kc6 : ClassId) (P : St5 Z h0 n0 s_WIN s_LOSS s_DRAW s_SW s_EM c1 c2 c3 c4 c5 c6 c7 c8 c9 k901 k902 kc1 kc2 kc3 kc4 kc5 kc6) :
    MC l Z y4 jdk_39_method_1_code 1 none ws rm_2_0_0_24 #[(.ref c9)] h0 (Qm84 Z n0 s_WIN s_LOSS s_DRAW s_SW s_EM c1 c2 c3 c4 c5 c6 c7 c8 c9 k901 k902 kc1 kc2 kc3 kc4 kc5 kc6) := by
  obtain ⟨S_WIN, S_LOSS, S_DRAW, S__SwitchMap_com_example_g, S_DEFAULTCAPACITY_EMPTY_EL, E_s_WIN, F_s_WIN_ordinal, E_s_LOSS, F_s_LOSS_ordinal, E_s_DRAW, F_s_DRAW_ordinal, V_s_SW, V_s_EM, E_c1, F_c1_wins, F_c1_draws, F_c1_losses, F_c1_matches, F_c1_drawnMatches, V_c2, V_c3, V_c4, E_c5, F_c5_wins, F_c5_draws, F_c5_losses, F_c5_matches, F_c5_drawnMatches, V_c6, V_c7, V_c8, E_c9, F_c9_modCount, F_c9_elementData, F_c9_s, g_c1, lt_c1_c2, lt_c2_c3, lt_c3_c4, lt_c4_c5, lt_c5_c6, lt_c6_c7, lt_c7_c8, lt_c8_c9, od_s_WIN, od_s_LOSS, od_s_DRAW, od_s_SW, od_s_EM⟩ := id P
  refine own_met (plainFor_of_name pn4) fun p e s m below meth c s₁ X0 hx hZ Y hml hO hnm hlk hret e0 => f_cast (f' := mkF m 0 #[(rv c9)] []) (by first | (simp [entryFrame, mkF, argsToLocals, Value.category]; done) | rfl) ?_
  have N0 := Fr.nil n0
  refine aN X0 hx (hb Y d4_0) rfl rfl <| f_spec X0 hx hZ hO (by rw [hml]; rfl) rfl (w33 hw) (w34 hw) (w37 hw) (w38 hw) e0 (a := c9) (argsL := []) (rest := []) (q82 l Z a0 hw [] h0 n0 c9) (lenOf pd2 rfl) (hb Y d4_1) fun T80 L80 v80 X80 hQ80 => ?_
  obtain ⟨rfl, N80q, e80⟩ := hQ80
  have N80 := Fr.app N0 N80q
  refine aN X80 hx (hb Y d4_4) rfl rfl <| iK X80 hx (z := 0) (hb Y d4_5) <| f_putF X80 hx hZ hO (w40 hw) Via.refl e80 F_c9_modCount E_c9 (Or.inl (w41 hw)) (w22 hw) (ty := .int) (by decide) rfl rfl (hb Y d4_6) fun T83 h83 X83 e83 W83 => ?_
  have N83x := Fr.snoc X83 N80 (by omega : n0 ≤ c9)
  exact f_ret0 X83 hx hlk hret (hb Y d4_9) (QQ := (Qm84 Z n0 s_WIN s_LOSS s_DRAW s_SW s_EM c1 c2 c3 c4 c5 c6 c7 c8 c9 k901 k902 kc1 kc2 kc3 kc4 kc5 kc6)) (by rw [e83]; exact ⟨rfl, N83x, (Sta.wr W83 S_WIN), (Sta.wr W83 S_LOSS), (Sta.wr W83 S_DRAW), (Sta.wr W83 S__SwitchMap_com_example_g), (Sta.wr W83 S_DEFAULTCAPACITY_EMPTY_EL), (xw W83 E_s_WIN), (fo W83 F_s_WIN_ordinal), (xw W83 E_s_LOSS), (fo W83 F_s_LOSS_ordinal), (xw W83 E_s_DRAW), (fo W83 F_s_DRAW_ordinal), (vo V_s_SW W83), (vo V_s_EM W83), (xw W83 E_c1), (fo W83 F_c1_wins), (fo W83 F_c1_draws), (fo W83 F_c1_losses), (fo W83 F_c1_matches), (fo W83 F_c1_drawnMatches), (vo V_c2 W83), (vo V_c3 W83), (vo V_c4 W83), (xw W83 E_c5), (fo W83 F_c5_wins), (fo W83 F_c5_draws), (fo W83 F_c5_losses), (fo W83 F_c5_matches), (fo W83 F_c5_drawnMatches), (vo V_c6 W83), (vo V_c7 W83), (vo V_c8 W83), (xw W83 E_c9), (Fld.same W83 F_c9_modCount), (Fld.other W83 F_c9_elementData (Or.inr (slot_ne (Or.inl (w44 hw)) (Or.inl (w41 hw)) (by decide) (t := (.array (.object "java/lang/Object"))) (t' := .int) (by decide) (by decide)))), (Fld.other W83 F_c9_s (Or.inr (slot_ne (Or.inl (w59 hw)) (Or.inl (w41 hw)) (by decide) (t := .int) (t' := .int) (by decide) (by decide)))), g_c1, lt_c1_c2, lt_c2_c3, lt_c3_c4, lt_c4_c5, lt_c5_c6, lt_c6_c7, lt_c7_c8, lt_c8_c9, od_s_WIN, od_s_LOSS, od_s_DRAW, od_s_SW, od_s_EM⟩) (by decide) (by decide)
def St6 (Z : State) (h : Heap) (n0 : Nat) (s_WIN : Nat) (s_LOSS : Nat) (s_DRAW : Nat) (s_SW : Nat) (s_EM : Nat) (c1 : Nat) (c2 : Nat) (c3 : Nat) (c4 : Nat) (c5 : Nat) (c6 : Nat) (c7 : Nat) (c8 : Nat) (c9 : Nat) (k901 : ClassId) (k902 : ClassId) (kc1 : ClassId) (kc2 : ClassId) (kc3 : ClassId) (kc4 : ClassId) (kc5 : ClassId) (kc6 : ClassId) : Prop :=
  Sta Z h cR "WIN" "Lcom/example/gamesmith/gamesmith/game/Result;" (.ref s_WIN) ∧
  Sta Z h cR "LOSS" "Lcom/example/gamesmith/gamesmith/game/Result;" (.ref s_LOSS) ∧
  Sta Z h cR "DRAW" "Lcom/example/gamesmith/gamesmith/game/Result;" (.ref s_DRAW) ∧
  Sta Z h "com/example/gamesmith/gamesmith/arena/Tally$1" "$SwitchMap$com$example$gamesmith$gamesmith$game$Result" "[I" (.ref s_SW) ∧
  Sta Z h cA "DEFAULTCAPACITY_EMPTY_ELEMENTDATA" "[Ljava/lang/Object;" (.ref s_EM) ∧
  Exa Z h s_WIN cR ∧
  Fld Z h s_WIN "java/lang/Enum" "ordinal" "I" (.int 0) ∧
  Exa Z h s_LOSS cR ∧
  Fld Z h s_LOSS "java/lang/Enum" "ordinal" "I" (.int 1) ∧
  Exa Z h s_DRAW cR ∧
  Fld Z h s_DRAW "java/lang/Enum" "ordinal" "I" (.int 2) ∧
  Arv Z h s_SW k901 .int 3 [(.int 1), (.int 3), (.int 2)] (.int 0) ∧
  Arv Z h s_EM k902 (.object "java/lang/Object") 0 [] .null ∧
  Exa Z h c1 cT ∧
  Fld Z h c1 cT "wins" "[I" (.ref c2) ∧
  Fld Z h c1 cT "draws" "[I" (.ref c3) ∧
  Fld Z h c1 cT "losses" "[I" (.ref c4) ∧
  Fld Z h c1 cT "matches" "I" (.int 0) ∧
  Fld Z h c1 cT "drawnMatches" "I" (.int 0) ∧
  Arv Z h c2 kc1 .int 2 [(.int 0), (.int 0)] (.int 0) ∧
  Arv Z h c3 kc2 .int 2 [(.int 0), (.int 0)] (.int 0) ∧
  Arv Z h c4 kc3 .int 2 [(.int 0), (.int 0)] (.int 0) ∧
  Exa Z h c5 cT ∧
  Fld Z h c5 cT "wins" "[I" (.ref c6) ∧
  Fld Z h c5 cT "draws" "[I" (.ref c7) ∧
  Fld Z h c5 cT "losses" "[I" (.ref c8) ∧
  Fld Z h c5 cT "matches" "I" (.int 0) ∧
  Fld Z h c5 cT "drawnMatches" "I" (.int 0) ∧
  Arv Z h c6 kc4 .int 2 [(.int 0), (.int 0)] (.int 0) ∧
  Arv Z h c7 kc5 .int 2 [(.int 0), (.int 0)] (.int 0) ∧
  Arv Z h c8 kc6 .int 2 [(.int 0), (.int 0)] (.int 0) ∧
  Exa Z h c9 cA ∧
  Fld Z h c9 "java/util/AbstractList" "modCount" "I" (.int 0) ∧
  Fld Z h c9 cA "elementData" "[Ljava/lang/Object;" (.ref s_EM) ∧
  Fld Z h c9 cA "size" "I" (.int 0) ∧
  n0 ≤ c1 ∧
  c1 < c2 ∧
  c2 < c3 ∧
  c3 < c4 ∧
  c4 < c5 ∧
  c5 < c6 ∧
  c6 < c7 ∧
  c7 < c8 ∧
  c8 < c9 ∧
  s_WIN < n0 ∧
  s_LOSS < n0 ∧
  s_DRAW < n0 ∧
  s_SW < n0 ∧
  s_EM < n0
def Qm88 (Z : State) (n0 : Nat) (s_WIN : Nat) (s_LOSS : Nat) (s_DRAW : Nat) (s_SW : Nat) (s_EM : Nat) (c1 : Nat) (c2 : Nat) (c3 : Nat) (c4 : Nat) (c5 : Nat) (c6 : Nat) (c7 : Nat) (c8 : Nat) (c9 : Nat) (k901 : ClassId) (k902 : ClassId) (kc1 : ClassId) (kc2 : ClassId) (kc3 : ClassId) (kc4 : ClassId) (kc5 : ClassId) (kc6 : ClassId) (v : Option Value) (h : Heap) (L : List Loc) : Prop := v = none ∧ Fr n0 L ∧ St6 Z h n0 s_WIN s_LOSS s_DRAW s_SW s_EM c1 c2 c3 c4 c5 c6 c7 c8 c9 k901 k902 kc1 kc2 kc3 kc4 kc5 kc6
theorem m88 (l : Launch) (Z : State) (a0 : Array Value) (hw : HW a0 Z) (ws : List Jvm.Cond) (h0 : Heap) (n0 : Nat) (s_WIN : Nat) (s_LOSS : Nat) (s_DRAW : Nat) (s_SW : Nat) (s_EM : Nat) (c1 : Nat) (c2 : Nat) (c3 : Nat) (c4 : Nat) (c5 : Nat) (c6 : Nat) (c7 : Nat) (c8 : Nat) (c9 : Nat) (k901 : ClassId) (k902 : ClassId) (kc1 : ClassId) (kc2 : ClassId) (kc3 : ClassId) (kc4 : ClassId) (kc5 : ClassId) (kc6 : ClassId) (P : St5 Z h0 n0 s_WIN s_LOSS s_DRAW s_SW s_EM c1 c2 c3 c4 c5 c6 c7 c8 c9 k901 k902 kc1 kc2 kc3 kc4 kc5 kc6) :
    MC l Z y3 jdk_38_method_2_code 1 none ws rm_3_0_0_36 #[(.ref c9)] h0 (Qm88 Z n0 s_WIN s_LOSS s_DRAW s_SW s_EM c1 c2 c3 c4 c5 c6 c7 c8 c9 k901 k902 kc1 kc2 kc3 kc4 kc5 kc6) := by
  obtain ⟨S_WIN, S_LOSS, S_DRAW, S__SwitchMap_com_example_g, S_DEFAULTCAPACITY_EMPTY_EL, E_s_WIN, F_s_WIN_ordinal, E_s_LOSS, F_s_LOSS_ordinal, E_s_DRAW, F_s_DRAW_ordinal, V_s_SW, V_s_EM, E_c1, F_c1_wins, F_c1_draws, F_c1_losses, F_c1_matches, F_c1_drawnMatches, V_c2, V_c3, V_c4, E_c5, F_c5_wins, F_c5_draws, F_c5_losses, F_c5_matches, F_c5_drawnMatches, V_c6, V_c7, V_c8, E_c9, F_c9_modCount, F_c9_elementData, F_c9_s, g_c1, lt_c1_c2, lt_c2_c3, lt_c3_c4, lt_c4_c5, lt_c5_c6, lt_c6_c7, lt_c7_c8, lt_c8_c9, od_s_WIN, od_s_LOSS, od_s_DRAW, od_s_SW, od_s_EM⟩ := id P
  refine own_met (plainFor_of_name pn3) fun p e s m below meth c s₁ X0 hx hZ Y hml hO hnm hlk hret e0 => f_cast (f' := mkF m 0 #[(rv c9)] []) (by first | (simp [entryFrame, mkF, argsToLocals, Value.category]; done) | rfl) ?_
  have N0 := Fr.nil n0
  refine aN X0 hx (hb Y d3_0) rfl rfl ?_
  have P85 : St5 Z h0 n0 s_WIN s_LOSS s_DRAW s_SW s_EM c1 c2 c3 c4 c5 c6 c7 c8 c9 k901 k902 kc1 kc2 kc3 kc4 kc5 kc6 := ⟨S_WIN, S_LOSS, S_DRAW, S__SwitchMap_com_example_g, S_DEFAULTCAPACITY_EMPTY_EL, E_s_WIN, F_s_WIN_ordinal, E_s_LOSS, F_s_LOSS_ordinal, E_s_DRAW, F_s_DRAW_ordinal, V_s_SW, V_s_EM, E_c1, F_c1_wins, F_c1_draws, F_c1_losses, F_c1_matches, F_c1_drawnMatches, V_c2, V_c3, V_c4, E_c5, F_c5_wins, F_c5_draws, F_c5_losses, F_c5_matches, F_c5_drawnMatches, V_c6, V_c7, V_c8, E_c9, F_c9_modCount, F_c9_elementData, F_c9_s, g_c1, lt_c1_c2, lt_c2_c3, lt_c3_c4, lt_c4_c5, lt_c5_c6, lt_c6_c7, lt_c7_c8, lt_c8_c9, od_s_WIN, od_s_LOSS, od_s_DRAW, od_s_SW, od_s_EM⟩
  refine f_spec X0 hx hZ hO (by rw [hml]; rfl) rfl (w27 hw) (w28 hw) (w31 hw) (w32 hw) e0 (a := c9) (argsL := []) (rest := []) (m84 l Z a0 hw [] h0 n0 s_WIN s_LOSS s_DRAW s_SW s_EM c1 c2 c3 c4 c5 c6 c7 c8 c9 k901 k902 kc1 kc2 kc3 kc4 kc5 kc6 P85) (lenOf pd2 rfl) (hb Y d3_1) fun T75 L75 v75 X75 hQ75 => ?_
  obtain ⟨rfl, N75q, P75⟩ := hQ75
  obtain ⟨S_WIN, S_LOSS, S_DRAW, S__SwitchMap_com_example_g, S_DEFAULTCAPACITY_EMPTY_EL, E_s_WIN, F_s_WIN_ordinal, E_s_LOSS, F_s_LOSS_ordinal, E_s_DRAW, F_s_DRAW_ordinal, V_s_SW, V_s_EM, E_c1, F_c1_wins, F_c1_draws, F_c1_losses, F_c1_matches, F_c1_drawnMatches, V_c2, V_c3, V_c4, E_c5, F_c5_wins, F_c5_draws, F_c5_losses, F_c5_matches, F_c5_drawnMatches, V_c6, V_c7, V_c8, E_c9, F_c9_modCount, F_c9_elementData, F_c9_s, g_c1, lt_c1_c2, lt_c2_c3, lt_c3_c4, lt_c4_c5, lt_c5_c6, lt_c6_c7, lt_c7_c8, lt_c8_c9, od_s_WIN, od_s_LOSS, od_s_DRAW, od_s_SW, od_s_EM⟩ := id P75
  have N75 := Fr.app N0 N75q
  refine aN X75 hx (hb Y d3_4) rfl rfl <| f_getS X75 hx hZ hO (w42 hw) rfl S_DEFAULTCAPACITY_EMPTY_EL (hb Y d3_5) fun T86 X86 e86 => ?_
  refine f_putF X86 hx hZ hO (w43 hw) Via.refl e86 F_c9_elementData E_c9 (Or.inl (w44 hw)) (w22 hw) (ty := (.array (.object "java/lang/Object"))) (by decide) rfl rfl (hb Y d3_8) fun T87 h87 X87 e87 W87 => ?_
  have N87x := Fr.snoc X87 N75 (by omega : n0 ≤ c9)
  exact f_ret0 X87 hx hlk hret (hb Y d3_11) (QQ := (Qm88 Z n0 s_WIN s_LOSS s_DRAW s_SW s_EM c1 c2 c3 c4 c5 c6 c7 c8 c9 k901 k902 kc1 kc2 kc3 kc4 kc5 kc6)) (by rw [e87]; exact ⟨rfl, N87x, (Sta.wr W87 S_WIN), (Sta.wr W87 S_LOSS), (Sta.wr W87 S_DRAW), (Sta.wr W87 S__SwitchMap_com_example_g), (Sta.wr W87 S_DEFAULTCAPACITY_EMPTY_EL), (xw W87 E_s_WIN), (fo W87 F_s_WIN_ordinal), (xw W87 E_s_LOSS), (fo W87 F_s_LOSS_ordinal), (xw W87 E_s_DRAW), (fo W87 F_s_DRAW_ordinal), (vo V_s_SW W87), (vo V_s_EM W87), (xw W87 E_c1), (fo W87 F_c1_wins), (fo W87 F_c1_draws), (fo W87 F_c1_losses), (fo W87 F_c1_matches), (fo W87 F_c1_drawnMatches), (vo V_c2 W87), (vo V_c3 W87), (vo V_c4 W87), (xw W87 E_c5), (fo W87 F_c5_wins), (fo W87 F_c5_draws), (fo W87 F_c5_losses), (fo W87 F_c5_matches), (fo W87 F_c5_drawnMatches), (vo V_c6 W87), (vo V_c7 W87), (vo V_c8 W87), (xw W87 E_c9), (Fld.other W87 F_c9_modCount (Or.inr (slot_ne (Or.inl (w41 hw)) (Or.inl (w44 hw)) (by decide) (t := .int) (t' := (.array (.object "java/lang/Object"))) (by decide) (by decide)))), (Fld.same W87 F_c9_elementData), (Fld.other W87 F_c9_s (Or.inr (slot_ne (Or.inl (w59 hw)) (Or.inl (w44 hw)) (by decide) (t := .int) (t' := (.array (.object "java/lang/Object"))) (by decide) (by decide)))), g_c1, lt_c1_c2, lt_c2_c3, lt_c3_c4, lt_c4_c5, lt_c5_c6, lt_c6_c7, lt_c7_c8, lt_c8_c9, od_s_WIN, od_s_LOSS, od_s_DRAW, od_s_SW, od_s_EM⟩) (by decide) (by decide)
theorem q281 (l : Launch) (Z : State) (a0 : Array Value) (hw : HW a0 Z) (ws : List Jvm.Cond) (h0 : Heap) (n0 : Nat) :
    MC l Z y11 jdk_29_method_65_code 2 (some .int) ws rm_0_0_0_0 #[(.int 10), (.int 1)] h0 (QV (.int 10) h0 n0) := by
  refine own_met (Jvm.Free.JP.mathPlain rfl (by decide +kernel)) fun p e s m below meth c s₁ X0 hx hZ Y hml hO hnm hlk hret e0 => f_cast (f' := mkF m 0 #[(iv 10), (iv 1)] []) (by first | (simp [entryFrame, mkF, argsToLocals, Value.category]; done) | rfl) ?_
  have N0 := Fr.nil n0
  refine iN X0 hx (hb Y d11_0) rfl <| iN X0 hx (hb Y d11_1) rfl <| cN X0 hx (hb Y d11_2) <| iN X0 hx (hb Y d11_5) rfl <| gT X0 hx (pc := 6) 10 (hb Y d11_6) ?_
  exact f_ret X0 hx hlk (i := .ireturn) hret rfl (Or.inl ⟨rfl, Or.inl rfl, _, rfl⟩) (hb Y d11_10) (QQ := (QV (.int 10) h0 n0)) ⟨rfl, N0, e0⟩ (by decide) (by decide)
def St7 (Z : State) (h : Heap) (n0 : Nat) (s_WIN : Nat) (s_LOSS : Nat) (s_DRAW : Nat) (s_SW : Nat) (s_EM : Nat) (e0_ : Nat) (c1 : Nat) (c2 : Nat) (c3 : Nat) (c4 : Nat) (c5 : Nat) (c6 : Nat) (c7 : Nat) (c8 : Nat) (c9 : Nat) (k901 : ClassId) (k902 : ClassId) (kc1 : ClassId) (kc2 : ClassId) (kc3 : ClassId) (kc4 : ClassId) (kc5 : ClassId) (kc6 : ClassId) : Prop :=
  Sta Z h cR "WIN" "Lcom/example/gamesmith/gamesmith/game/Result;" (.ref s_WIN) ∧
  Sta Z h cR "LOSS" "Lcom/example/gamesmith/gamesmith/game/Result;" (.ref s_LOSS) ∧
  Sta Z h cR "DRAW" "Lcom/example/gamesmith/gamesmith/game/Result;" (.ref s_DRAW) ∧
  Sta Z h "com/example/gamesmith/gamesmith/arena/Tally$1" "$SwitchMap$com$example$gamesmith$gamesmith$game$Result" "[I" (.ref s_SW) ∧
  Sta Z h cA "DEFAULTCAPACITY_EMPTY_ELEMENTDATA" "[Ljava/lang/Object;" (.ref s_EM) ∧
  Exa Z h s_WIN cR ∧
  Fld Z h s_WIN "java/lang/Enum" "ordinal" "I" (.int 0) ∧
  Exa Z h s_LOSS cR ∧
  Fld Z h s_LOSS "java/lang/Enum" "ordinal" "I" (.int 1) ∧
  Exa Z h s_DRAW cR ∧
  Fld Z h s_DRAW "java/lang/Enum" "ordinal" "I" (.int 2) ∧
  Arv Z h s_SW k901 .int 3 [(.int 1), (.int 3), (.int 2)] (.int 0) ∧
  Arv Z h s_EM k902 (.object "java/lang/Object") 0 [] .null ∧
  Exa Z h c1 cT ∧
  Fld Z h c1 cT "wins" "[I" (.ref c2) ∧
  Fld Z h c1 cT "draws" "[I" (.ref c3) ∧
  Fld Z h c1 cT "losses" "[I" (.ref c4) ∧
  Fld Z h c1 cT "matches" "I" (.int 0) ∧
  Fld Z h c1 cT "drawnMatches" "I" (.int 0) ∧
  Arv Z h c2 kc1 .int 2 [(.int 0), (.int 0)] (.int 0) ∧
  Arv Z h c3 kc2 .int 2 [(.int 0), (.int 0)] (.int 0) ∧
  Arv Z h c4 kc3 .int 2 [(.int 0), (.int 0)] (.int 0) ∧
  Exa Z h c5 cT ∧
  Fld Z h c5 cT "wins" "[I" (.ref c6) ∧
  Fld Z h c5 cT "draws" "[I" (.ref c7) ∧
  Fld Z h c5 cT "losses" "[I" (.ref c8) ∧
  Fld Z h c5 cT "matches" "I" (.int 0) ∧
  Fld Z h c5 cT "drawnMatches" "I" (.int 0) ∧
  Arv Z h c6 kc4 .int 2 [(.int 0), (.int 0)] (.int 0) ∧
  Arv Z h c7 kc5 .int 2 [(.int 0), (.int 0)] (.int 0) ∧
  Arv Z h c8 kc6 .int 2 [(.int 0), (.int 0)] (.int 0) ∧
  Exa Z h c9 cA ∧
  Fld Z h c9 "java/util/AbstractList" "modCount" "I" (.int 1) ∧
  Fld Z h c9 cA "elementData" "[Ljava/lang/Object;" (.ref s_EM) ∧
  Fld Z h c9 cA "size" "I" (.int 0) ∧
  Exa Z h e0_ cR ∧
  n0 ≤ c1 ∧
  c1 < c2 ∧
  c2 < c3 ∧
  c3 < c4 ∧
  c4 < c5 ∧
  c5 < c6 ∧
  c6 < c7 ∧
  c7 < c8 ∧
  c8 < c9 ∧
  s_WIN < n0 ∧
  s_LOSS < n0 ∧
  s_DRAW < n0 ∧
  s_SW < n0 ∧
  s_EM < n0 ∧
  e0_ < n0
def St8 (Z : State) (h : Heap) (n0 : Nat) (s_WIN : Nat) (s_LOSS : Nat) (s_DRAW : Nat) (s_SW : Nat) (s_EM : Nat) (e0_ : Nat) (c1 : Nat) (c2 : Nat) (c3 : Nat) (c4 : Nat) (c5 : Nat) (c6 : Nat) (c7 : Nat) (c8 : Nat) (c9 : Nat) (b282 : Nat) (k901 : ClassId) (k902 : ClassId) (kc1 : ClassId) (kc2 : ClassId) (kc3 : ClassId) (kc4 : ClassId) (kc5 : ClassId) (kc6 : ClassId) (kb282 : ClassId) : Prop :=
  Sta Z h cR "WIN" "Lcom/example/gamesmith/gamesmith/game/Result;" (.ref s_WIN) ∧
  Sta Z h cR "LOSS" "Lcom/example/gamesmith/gamesmith/game/Result;" (.ref s_LOSS) ∧
  Sta Z h cR "DRAW" "Lcom/example/gamesmith/gamesmith/game/Result;" (.ref s_DRAW) ∧
  Sta Z h "com/example/gamesmith/gamesmith/arena/Tally$1" "$SwitchMap$com$example$gamesmith$gamesmith$game$Result" "[I" (.ref s_SW) ∧
  Sta Z h cA "DEFAULTCAPACITY_EMPTY_ELEMENTDATA" "[Ljava/lang/Object;" (.ref s_EM) ∧
  Exa Z h s_WIN cR ∧
  Fld Z h s_WIN "java/lang/Enum" "ordinal" "I" (.int 0) ∧
  Exa Z h s_LOSS cR ∧
  Fld Z h s_LOSS "java/lang/Enum" "ordinal" "I" (.int 1) ∧
  Exa Z h s_DRAW cR ∧
  Fld Z h s_DRAW "java/lang/Enum" "ordinal" "I" (.int 2) ∧
  Arv Z h s_SW k901 .int 3 [(.int 1), (.int 3), (.int 2)] (.int 0) ∧
  Arv Z h s_EM k902 (.object "java/lang/Object") 0 [] .null ∧
  Exa Z h c1 cT ∧
  Fld Z h c1 cT "wins" "[I" (.ref c2) ∧
  Fld Z h c1 cT "draws" "[I" (.ref c3) ∧
  Fld Z h c1 cT "losses" "[I" (.ref c4) ∧
  Fld Z h c1 cT "matches" "I" (.int 0) ∧
  Fld Z h c1 cT "drawnMatches" "I" (.int 0) ∧
  Arv Z h c2 kc1 .int 2 [(.int 0), (.int 0)] (.int 0) ∧
  Arv Z h c3 kc2 .int 2 [(.int 0), (.int 0)] (.int 0) ∧
  Arv Z h c4 kc3 .int 2 [(.int 0), (.int 0)] (.int 0) ∧
  Exa Z h c5 cT ∧
  Fld Z h c5 cT "wins" "[I" (.ref c6) ∧
  Fld Z h c5 cT "draws" "[I" (.ref c7) ∧
  Fld Z h c5 cT "losses" "[I" (.ref c8) ∧
  Fld Z h c5 cT "matches" "I" (.int 0) ∧
  Fld Z h c5 cT "drawnMatches" "I" (.int 0) ∧
  Arv Z h c6 kc4 .int 2 [(.int 0), (.int 0)] (.int 0) ∧
  Arv Z h c7 kc5 .int 2 [(.int 0), (.int 0)] (.int 0) ∧
  Arv Z h c8 kc6 .int 2 [(.int 0), (.int 0)] (.int 0) ∧
  Exa Z h c9 cA ∧
  Fld Z h c9 "java/util/AbstractList" "modCount" "I" (.int 1) ∧
  Fld Z h c9 cA "elementData" "[Ljava/lang/Object;" (.ref b282) ∧
  Fld Z h c9 cA "size" "I" (.int 0) ∧
  Exa Z h e0_ cR ∧
  Exa Z h b282 "[Ljava/lang/Object;" ∧
  Arv Z h b282 kb282 (.object "java/lang/Object") 10 [.null, .null, .null, .null, .null, .null, .null, .null, .null, .null] .null ∧
  Ovr Z kb282 "java/lang/Object" ∧
  n0 ≤ c1 ∧
  c1 < c2 ∧
  c2 < c3 ∧
  c3 < c4 ∧
  c4 < c5 ∧
  c5 < c6 ∧
  c6 < c7 ∧
  c7 < c8 ∧
  c8 < c9 ∧
  c9 < b282 ∧
  s_WIN < n0 ∧
  s_LOSS < n0 ∧
  s_DRAW < n0 ∧
  s_SW < n0 ∧
  s_EM < n0 ∧
  e0_ < n0
def Qm284 (Z : State) (n0 : Nat) (s_WIN : Nat) (s_LOSS : Nat) (s_DRAW : Nat) (s_SW : Nat) (s_EM : Nat) (e0_ : Nat) (c1 : Nat) (c2 : Nat) (c3 : Nat) (c4 : Nat) (c5 : Nat) (c6 : Nat) (c7 : Nat) (c8 : Nat) (c9 : Nat) (k901 : ClassId) (k902 : ClassId) (kc1 : ClassId) (kc2 : ClassId) (kc3 : ClassId) (kc4 : ClassId) (kc5 : ClassId) (kc6 : ClassId) (v : Option Value) (h : Heap) (L : List Loc) : Prop := ∃ (kb282 : ClassId) (b282 : Nat), v = some (.ref b282) ∧ Fr n0 L ∧ St8 Z h n0 s_WIN s_LOSS s_DRAW s_SW s_EM e0_ c1 c2 c3 c4 c5 c6 c7 c8 c9 b282 k901 k902 kc1 kc2 kc3 kc4 kc5 kc6 kb282
theorem m284 (l : Launch) (Z : State) (a0 : Array Value) (hw : HW a0 Z) (ws : List Jvm.Cond) (h0 : Heap) (n0 : Nat) (s_WIN : Nat) (s_LOSS : Nat) (s_DRAW : Nat) (s_SW : Nat) (s_EM : Nat) (e0_ : Nat) (c1 : Nat) (c2 : Nat) (c3 : Nat) (c4 : Nat) (c5 : Nat) (c6 : Nat) (c7 : Nat) (c8 : Nat) (c9 : Nat) (k901 : ClassId) (k902 : ClassId) (kc1 : ClassId) (kc2 : ClassId) (kc3 : ClassId) (kc4 : ClassId) (kc5 : ClassId) (kc6 : ClassId) (P : St7 Z h0 n0 s_WIN s_LOSS s_DRAW s_SW s_EM e0_ c1 c2 c3 c4 c5 c6 c7 c8 c9 k901 k902 kc1 kc2 kc3 kc4 kc5 kc6) :
    MC l Z y10 jdk_38_method_6_code 4 (some (.array (.object "java/lang/Object"))) ws rm_1_1_10_14 #[(.ref c9), (.int 1)] h0 (Qm284 Z n0 s_WIN s_LOSS s_DRAW s_SW s_EM e0_ c1 c2 c3 c4 c5 c6 c7 c8 c9 k901 k902 kc1 kc2 kc3 kc4 kc5 kc6) := by
  obtain ⟨S_WIN, S_LOSS, S_DRAW, S__SwitchMap_com_example_g, S_DEFAULTCAPACITY_EMPTY_EL, E_s_WIN, F_s_WIN_ordinal, E_s_LOSS, F_s_LOSS_ordinal, E_s_DRAW, F_s_DRAW_ordinal, V_s_SW, V_s_EM, E_c1, F_c1_wins, F_c1_draws, F_c1_losses, F_c1_matches, F_c1_drawnMatches, V_c2, V_c3, V_c4, E_c5, F_c5_wins, F_c5_draws, F_c5_losses, F_c5_matches, F_c5_drawnMatches, V_c6, V_c7, V_c8, E_c9, F_c9_modCount, F_c9_elementData, F_c9_s, E_e0_, g_c1, lt_c1_c2, lt_c2_c3, lt_c3_c4, lt_c4_c5, lt_c5_c6, lt_c6_c7, lt_c7_c8, lt_c8_c9, od_s_WIN, od_s_LOSS, od_s_DRAW, od_s_SW, od_s_EM, od_e0_⟩ := id P
  refine own_met (plainFor_of_name pn10) fun p e s m below meth c s₁ X0 hx hZ Y hml hO hnm hlk hret e0 => f_cast (f' := mkF m 0 #[(rv c9), (iv 1), .unset, .unset] []) (by first | (simp [entryFrame, mkF, argsToLocals, Value.category]; done) | rfl) ?_
  have N0 := Fr.nil n0
  refine aN X0 hx (hb Y d10_0) rfl rfl <| gF X0 hx hZ hO (w43 hw) Via.refl e0 F_c9_elementData (hb Y d10_1) fun T277 X277 e277 => ?_
  refine f_len X277 hx hZ e277 V_s_EM (hb Y d10_4) <| sN X277 hx (L' := #[(rv c9), (iv 1), (iv 0), .unset]) (hb Y d10_5) rfl <| iN X277 hx (hb Y d10_6) rfl <| fN X277 hx (hb Y d10_7) <| aN X277 hx (hb Y d10_10) rfl rfl <| gF X277 hx hZ hO (w43 hw) Via.refl e277 F_c9_elementData (hb Y d10_11) fun T278 X278 e278 => ?_
  refine f_getS X278 hx hZ hO (w42 hw) e278 S_DEFAULTCAPACITY_EMPTY_EL (hb Y d10_14) fun T279 X279 e279 => ?_
  refine f_acmp X279 hx (pc := 17) 45 true rfl rfl (hb Y d10_17) (decide_eq_true rfl) <| aN X279 hx (hb Y d10_45) rfl rfl <| f_bipush X279 hx (z := 10) (hb Y d10_46) <| iN X279 hx (hb Y d10_48) rfl <| f_stat X279 hx hZ hO (by rw [hml]; rfl) (w75 hw) (w76 hw) (w77 hw) (w78 hw) e279 (argsL := [(.int 10), (.int 1)]) (rest := [(.ref c9)]) (q281 l Z a0 hw [] h0 n0) (lenOf pd4 rfl) (hb Y d10_49) fun T280 L280 v280 X280 hQ280 => ?_
  obtain ⟨rfl, N280q, e280⟩ := hQ280
  have N280 := Fr.app N0 N280q
  refine f_newR X280 hx hZ hO (w79 hw) (w80 hw) e280 (hb Y d10_52) 10 (ad := "[Ljava/lang/Object;") (by decide +kernel) fun T282 h282 kb282 b282 g282 X282 e282 E282 V_b282 E_b282 O_b282 => ?_
  have lt_c9_b282 : c9 < b282 := by have := own_ltE E_c9; omega
  refine f_dupX1 X282 hx (hb Y d10_55) rfl rfl ?_
  replace F_c9_elementData := (fe E282 F_c9_elementData)
  replace E_c9 := (xe E282 E_c9)
  refine f_putF X282 hx hZ hO (w43 hw) Via.refl e282 F_c9_elementData E_c9 (Or.inl (w44 hw)) (w22 hw) (ty := (.array (.object "java/lang/Object"))) (by decide) rfl rfl (hb Y d10_56) fun T283 h283 X283 e283 W283 => ?_
  have N283x := Fr.snoc X283 N280 (by omega : n0 ≤ c9)
  exact f_ret X283 hx hlk (i := .areturn) hret rfl (Or.inr (Or.inr (Or.inr (Or.inr ⟨rfl, rfl, rfl⟩)))) (hb Y d10_59) (QQ := (Qm284 Z n0 s_WIN s_LOSS s_DRAW s_SW s_EM e0_ c1 c2 c3 c4 c5 c6 c7 c8 c9 k901 k902 kc1 kc2 kc3 kc4 kc5 kc6)) (by rw [e283]; exact ⟨kb282, b282, rfl, N283x, (Sta.wr W283 (Sta.ext E282 S_WIN)), (Sta.wr W283 (Sta.ext E282 S_LOSS)), (Sta.wr W283 (Sta.ext E282 S_DRAW)), (Sta.wr W283 (Sta.ext E282 S__SwitchMap_com_example_g)), (Sta.wr W283 (Sta.ext E282 S_DEFAULTCAPACITY_EMPTY_EL)), (xw W283 (xe E282 E_s_WIN)), (fo W283 (fe E282 F_s_WIN_ordinal)), (xw W283 (xe E282 E_s_LOSS)), (fo W283 (fe E282 F_s_LOSS_ordinal)), (xw W283 (xe E282 E_s_DRAW)), (fo W283 (fe E282 F_s_DRAW_ordinal)), (vo (ve V_s_SW E282) W283), (vo (ve V_s_EM E282) W283), (xw W283 (xe E282 E_c1)), (fo W283 (fe E282 F_c1_wins)), (fo W283 (fe E282 F_c1_draws)), (fo W283 (fe E282 F_c1_losses)), (fo W283 (fe E282 F_c1_matches)), (fo W283 (fe E282 F_c1_drawnMatches)), (vo (ve V_c2 E282) W283), (vo (ve V_c3 E282) W283), (vo (ve V_c4 E282) W283), (xw W283 (xe E282 E_c5)), (fo W283 (fe E282 F_c5_wins)), (fo W283 (fe E282 F_c5_draws)), (fo W283 (fe E282 F_c5_losses)), (fo W283 (fe E282 F_c5_matches)), (fo W283 (fe E282 F_c5_drawnMatches)), (vo (ve V_c6 E282) W283), (vo (ve V_c7 E282) W283), (vo (ve V_c8 E282) W283), (xw W283 E_c9), (Fld.other W283 (fe E282 F_c9_modCount) (Or.inr (slot_ne (Or.inl (w41 hw)) (Or.inl (w44 hw)) (by decide) (t := .int) (t' := (.array (.object "java/lang/Object"))) (by decide) (by decide)))), (Fld.same W283 F_c9_elementData), (Fld.other W283 (fe E282 F_c9_s) (Or.inr (slot_ne (Or.inl (w59 hw)) (Or.inl (w44 hw)) (by decide) (t := .int) (t' := (.array (.object "java/lang/Object"))) (by decide) (by decide)))), (xw W283 (xe E282 E_e0_)), (xw W283 E_b282), (vo V_b282 W283), O_b282, g_c1, lt_c1_c2, lt_c2_c3, lt_c3_c4, lt_c4_c5, lt_c5_c6, lt_c6_c7, lt_c7_c8, lt_c8_c9, lt_c9_b282, od_s_WIN, od_s_LOSS, od_s_DRAW, od_s_SW, od_s_EM, od_e0_⟩) (by decide) (by decide)
def St9 (Z : State) (h : Heap) (n0 : Nat) (s_WIN : Nat) (s_LOSS : Nat) (s_DRAW : Nat) (s_SW : Nat) (s_EM : Nat) (e0_ : Nat) (c1 : Nat) (c2 : Nat) (c3 : Nat) (c4 : Nat) (c5 : Nat) (c6 : Nat) (c7 : Nat) (c8 : Nat) (c9 : Nat) (b286 : Nat) (k901 : ClassId) (k902 : ClassId) (kc1 : ClassId) (kc2 : ClassId) (kc3 : ClassId) (kc4 : ClassId) (kc5 : ClassId) (kc6 : ClassId) (kb285 : ClassId) : Prop :=
  Sta Z h cR "WIN" "Lcom/example/gamesmith/gamesmith/game/Result;" (.ref s_WIN) ∧
  Sta Z h cR "LOSS" "Lcom/example/gamesmith/gamesmith/game/Result;" (.ref s_LOSS) ∧
  Sta Z h cR "DRAW" "Lcom/example/gamesmith/gamesmith/game/Result;" (.ref s_DRAW) ∧
  Sta Z h "com/example/gamesmith/gamesmith/arena/Tally$1" "$SwitchMap$com$example$gamesmith$gamesmith$game$Result" "[I" (.ref s_SW) ∧
  Sta Z h cA "DEFAULTCAPACITY_EMPTY_ELEMENTDATA" "[Ljava/lang/Object;" (.ref s_EM) ∧
  Exa Z h s_WIN cR ∧
  Fld Z h s_WIN "java/lang/Enum" "ordinal" "I" (.int 0) ∧
  Exa Z h s_LOSS cR ∧
  Fld Z h s_LOSS "java/lang/Enum" "ordinal" "I" (.int 1) ∧
  Exa Z h s_DRAW cR ∧
  Fld Z h s_DRAW "java/lang/Enum" "ordinal" "I" (.int 2) ∧
  Arv Z h s_SW k901 .int 3 [(.int 1), (.int 3), (.int 2)] (.int 0) ∧
  Arv Z h s_EM k902 (.object "java/lang/Object") 0 [] .null ∧
  Exa Z h c1 cT ∧
  Fld Z h c1 cT "wins" "[I" (.ref c2) ∧
  Fld Z h c1 cT "draws" "[I" (.ref c3) ∧
  Fld Z h c1 cT "losses" "[I" (.ref c4) ∧
  Fld Z h c1 cT "matches" "I" (.int 0) ∧
  Fld Z h c1 cT "drawnMatches" "I" (.int 0) ∧
  Arv Z h c2 kc1 .int 2 [(.int 0), (.int 0)] (.int 0) ∧
  Arv Z h c3 kc2 .int 2 [(.int 0), (.int 0)] (.int 0) ∧
  Arv Z h c4 kc3 .int 2 [(.int 0), (.int 0)] (.int 0) ∧
  Exa Z h c5 cT ∧
  Fld Z h c5 cT "wins" "[I" (.ref c6) ∧
  Fld Z h c5 cT "draws" "[I" (.ref c7) ∧
  Fld Z h c5 cT "losses" "[I" (.ref c8) ∧
  Fld Z h c5 cT "matches" "I" (.int 0) ∧
  Fld Z h c5 cT "drawnMatches" "I" (.int 0) ∧
  Arv Z h c6 kc4 .int 2 [(.int 0), (.int 0)] (.int 0) ∧
  Arv Z h c7 kc5 .int 2 [(.int 0), (.int 0)] (.int 0) ∧
  Arv Z h c8 kc6 .int 2 [(.int 0), (.int 0)] (.int 0) ∧
  Exa Z h c9 cA ∧
  Fld Z h c9 "java/util/AbstractList" "modCount" "I" (.int 1) ∧
  Fld Z h c9 cA "elementData" "[Ljava/lang/Object;" (.ref b286) ∧
  Fld Z h c9 cA "size" "I" (.int 0) ∧
  Exa Z h e0_ cR ∧
  Exa Z h b286 "[Ljava/lang/Object;" ∧
  Arv Z h b286 kb285 (.object "java/lang/Object") 10 [.null, .null, .null, .null, .null, .null, .null, .null, .null, .null] .null ∧
  Ovr Z kb285 "java/lang/Object" ∧
  n0 ≤ c1 ∧
  c1 < c2 ∧
  c2 < c3 ∧
  c3 < c4 ∧
  c4 < c5 ∧
  c5 < c6 ∧
  c6 < c7 ∧
  c7 < c8 ∧
  c8 < c9 ∧
  c9 < b286 ∧
  s_WIN < n0 ∧
  s_LOSS < n0 ∧
  s_DRAW < n0 ∧
  s_SW < n0 ∧
  s_EM < n0 ∧
  e0_ < n0
def Qm288 (Z : State) (n0 : Nat) (s_WIN : Nat) (s_LOSS : Nat) (s_DRAW : Nat) (s_SW : Nat) (s_EM : Nat) (e0_ : Nat) (c1 : Nat) (c2 : Nat) (c3 : Nat) (c4 : Nat) (c5 : Nat) (c6 : Nat) (c7 : Nat) (c8 : Nat) (c9 : Nat) (k901 : ClassId) (k902 : ClassId) (kc1 : ClassId) (kc2 : ClassId) (kc3 : ClassId) (kc4 : ClassId) (kc5 : ClassId) (kc6 : ClassId) (v : Option Value) (h : Heap) (L : List Loc) : Prop := ∃ (kb285 : ClassId) (b286 : Nat), v = some (.ref b286) ∧ Fr n0 L ∧ St9 Z h n0 s_WIN s_LOSS s_DRAW s_SW s_EM e0_ c1 c2 c3 c4 c5 c6 c7 c8 c9 b286 k901 k902 kc1 kc2 kc3 kc4 kc5 kc6 kb285
theorem m288 (l : Launch) (Z : State) (a0 : Array Value) (hw : HW a0 Z) (ws : List Jvm.Cond) (h0 : Heap) (n0 : Nat) (s_WIN : Nat) (s_LOSS : Nat) (s_DRAW : Nat) (s_SW : Nat) (s_EM : Nat) (e0_ : Nat) (c1 : Nat) (c2 : Nat) (c3 : Nat) (c4 : Nat) (c5 : Nat) (c6 : Nat) (c7 : Nat) (c8 : Nat) (c9 : Nat) (k901 : ClassId) (k902 : ClassId) (kc1 : ClassId) (kc2 : ClassId) (kc3 : ClassId) (kc4 : ClassId) (kc5 : ClassId) (kc6 : ClassId) (P : St7 Z h0 n0 s_WIN s_LOSS s_DRAW s_SW s_EM e0_ c1 c2 c3 c4 c5 c6 c7 c8 c9 k901 k902 kc1 kc2 kc3 kc4 kc5 kc6) :
    MC l Z y9 jdk_38_method_7_code 1 (some (.array (.object "java/lang/Object"))) ws rm_2_1_10_29 #[(.ref c9)] h0 (Qm288 Z n0 s_WIN s_LOSS s_DRAW s_SW s_EM e0_ c1 c2 c3 c4 c5 c6 c7 c8 c9 k901 k902 kc1 kc2 kc3 kc4 kc5 kc6) := by
  obtain ⟨S_WIN, S_LOSS, S_DRAW, S__SwitchMap_com_example_g, S_DEFAULTCAPACITY_EMPTY_EL, E_s_WIN, F_s_WIN_ordinal, E_s_LOSS, F_s_LOSS_ordinal, E_s_DRAW, F_s_DRAW_ordinal, V_s_SW, V_s_EM, E_c1, F_c1_wins, F_c1_draws, F_c1_losses, F_c1_matches, F_c1_drawnMatches, V_c2, V_c3, V_c4, E_c5, F_c5_wins, F_c5_draws, F_c5_losses, F_c5_matches, F_c5_drawnMatches, V_c6, V_c7, V_c8, E_c9, F_c9_modCount, F_c9_elementData, F_c9_s, E_e0_, g_c1, lt_c1_c2, lt_c2_c3, lt_c3_c4, lt_c4_c5, lt_c5_c6, lt_c6_c7, lt_c7_c8, lt_c8_c9, od_s_WIN, od_s_LOSS, od_s_DRAW, od_s_SW, od_s_EM, od_e0_⟩ := id P
  refine own_met (plainFor_of_name pn9) fun p e s m below meth c s₁ X0 hx hZ Y hml hO hnm hlk hret e0 => f_cast (f' := mkF m 0 #[(rv c9)] []) (by first | (simp [entryFrame, mkF, argsToLocals, Value.category]; done) | rfl) ?_
  have N0 := Fr.nil n0
  refine aN X0 hx (hb Y d9_0) rfl rfl <| aN X0 hx (hb Y d9_1) rfl rfl <| gF X0 hx hZ hO (w58 hw) Via.refl e0 F_c9_s (hb Y d9_2) fun T268 X268 e268 => ?_
  refine iK X268 hx (z := 1) (hb Y d9_5) <| iA X268 hx (z := 1) (hb Y d9_6) ?_
  have P287 : St7 Z h0 n0 s_WIN s_LOSS s_DRAW s_SW s_EM e0_ c1 c2 c3 c4 c5 c6 c7 c8 c9 k901 k902 kc1 kc2 kc3 kc4 kc5 kc6 := ⟨S_WIN, S_LOSS, S_DRAW, S__SwitchMap_com_example_g, S_DEFAULTCAPACITY_EMPTY_EL, E_s_WIN, F_s_WIN_ordinal, E_s_LOSS, F_s_LOSS_ordinal, E_s_DRAW, F_s_DRAW_ordinal, V_s_SW, V_s_EM, E_c1, F_c1_wins, F_c1_draws, F_c1_losses, F_c1_matches, F_c1_drawnMatches, V_c2, V_c3, V_c4, E_c5, F_c5_wins, F_c5_draws, F_c5_losses, F_c5_matches, F_c5_drawnMatches, V_c6, V_c7, V_c8, E_c9, F_c9_modCount, F_c9_elementData, F_c9_s, E_e0_, g_c1, lt_c1_c2, lt_c2_c3, lt_c3_c4, lt_c4_c5, lt_c5_c6, lt_c6_c7, lt_c7_c8, lt_c8_c9, od_s_WIN, od_s_LOSS, od_s_DRAW, od_s_SW, od_s_EM, od_e0_⟩
  refine pV X268 hx hZ hO (by rw [hml]; rfl) (w70 hw) (w71 hw) (w72 hw) (w22 hw) (w23 hw) (w74 hw) e268 E_c9 (argsL := [(.int 1)]) (rest := []) (m284 l Z a0 hw [] h0 n0 s_WIN s_LOSS s_DRAW s_SW s_EM e0_ c1 c2 c3 c4 c5 c6 c7 c8 c9 k901 k902 kc1 kc2 kc3 kc4 kc5 kc6 P287) (lenOf pd5 rfl) (hb Y d9_7) fun T269 L269 v269 X269 hQ269 => ?_
  obtain ⟨kb285, b286, rfl, N269q, P269⟩ := hQ269
  obtain ⟨S_WIN, S_LOSS, S_DRAW, S__SwitchMap_com_example_g, S_DEFAULTCAPACITY_EMPTY_EL, E_s_WIN, F_s_WIN_ordinal, E_s_LOSS, F_s_LOSS_ordinal, E_s_DRAW, F_s_DRAW_ordinal, V_s_SW, V_s_EM, E_c1, F_c1_wins, F_c1_draws, F_c1_losses, F_c1_matches, F_c1_drawnMatches, V_c2, V_c3, V_c4, E_c5, F_c5_wins, F_c5_draws, F_c5_losses, F_c5_matches, F_c5_drawnMatches, V_c6, V_c7, V_c8, E_c9, F_c9_modCount, F_c9_elementData, F_c9_s, E_e0_, E_b286, V_b286, O_b286, g_c1, lt_c1_c2, lt_c2_c3, lt_c3_c4, lt_c4_c5, lt_c5_c6, lt_c6_c7, lt_c7_c8, lt_c8_c9, lt_c9_b286, od_s_WIN, od_s_LOSS, od_s_DRAW, od_s_SW, od_s_EM, od_e0_⟩ := id P269
  have N269 := Fr.app N0 N269q
  exact f_ret X269 hx hlk (i := .areturn) hret rfl (Or.inr (Or.inr (Or.inr (Or.inr ⟨rfl, rfl, rfl⟩)))) (hb Y d9_10) (QQ := (Qm288 Z n0 s_WIN s_LOSS s_DRAW s_SW s_EM e0_ c1 c2 c3 c4 c5 c6 c7 c8 c9 k901 k902 kc1 kc2 kc3 kc4 kc5 kc6)) ⟨kb285, b286, rfl, N269, S_WIN, S_LOSS, S_DRAW, S__SwitchMap_com_example_g, S_DEFAULTCAPACITY_EMPTY_EL, E_s_WIN, F_s_WIN_ordinal, E_s_LOSS, F_s_LOSS_ordinal, E_s_DRAW, F_s_DRAW_ordinal, V_s_SW, V_s_EM, E_c1, F_c1_wins, F_c1_draws, F_c1_losses, F_c1_matches, F_c1_drawnMatches, V_c2, V_c3, V_c4, E_c5, F_c5_wins, F_c5_draws, F_c5_losses, F_c5_matches, F_c5_drawnMatches, V_c6, V_c7, V_c8, E_c9, F_c9_modCount, F_c9_elementData, F_c9_s, E_e0_, E_b286, V_b286, O_b286, g_c1, lt_c1_c2, lt_c2_c3, lt_c3_c4, lt_c4_c5, lt_c5_c6, lt_c6_c7, lt_c7_c8, lt_c8_c9, lt_c9_b286, od_s_WIN, od_s_LOSS, od_s_DRAW, od_s_SW, od_s_EM, od_e0_⟩ (by decide) (by decide)
def St10 (Z : State) (h : Heap) (n0 : Nat) (s_WIN : Nat) (s_LOSS : Nat) (s_DRAW : Nat) (s_SW : Nat) (s_EM : Nat) (e0_ : Nat) (c1 : Nat) (c2 : Nat) (c3 : Nat) (c4 : Nat) (c5 : Nat) (c6 : Nat) (c7 : Nat) (c8 : Nat) (c9 : Nat) (b290 : Nat) (k901 : ClassId) (k902 : ClassId) (kc1 : ClassId) (kc2 : ClassId) (kc3 : ClassId) (kc4 : ClassId) (kc5 : ClassId) (kc6 : ClassId) (kb289 : ClassId) : Prop :=
  Sta Z h cR "WIN" "Lcom/example/gamesmith/gamesmith/game/Result;" (.ref s_WIN) ∧
  Sta Z h cR "LOSS" "Lcom/example/gamesmith/gamesmith/game/Result;" (.ref s_LOSS) ∧
  Sta Z h cR "DRAW" "Lcom/example/gamesmith/gamesmith/game/Result;" (.ref s_DRAW) ∧
  Sta Z h "com/example/gamesmith/gamesmith/arena/Tally$1" "$SwitchMap$com$example$gamesmith$gamesmith$game$Result" "[I" (.ref s_SW) ∧
  Sta Z h cA "DEFAULTCAPACITY_EMPTY_ELEMENTDATA" "[Ljava/lang/Object;" (.ref s_EM) ∧
  Exa Z h s_WIN cR ∧
  Fld Z h s_WIN "java/lang/Enum" "ordinal" "I" (.int 0) ∧
  Exa Z h s_LOSS cR ∧
  Fld Z h s_LOSS "java/lang/Enum" "ordinal" "I" (.int 1) ∧
  Exa Z h s_DRAW cR ∧
  Fld Z h s_DRAW "java/lang/Enum" "ordinal" "I" (.int 2) ∧
  Arv Z h s_SW k901 .int 3 [(.int 1), (.int 3), (.int 2)] (.int 0) ∧
  Arv Z h s_EM k902 (.object "java/lang/Object") 0 [] .null ∧
  Exa Z h c1 cT ∧
  Fld Z h c1 cT "wins" "[I" (.ref c2) ∧
  Fld Z h c1 cT "draws" "[I" (.ref c3) ∧
  Fld Z h c1 cT "losses" "[I" (.ref c4) ∧
  Fld Z h c1 cT "matches" "I" (.int 0) ∧
  Fld Z h c1 cT "drawnMatches" "I" (.int 0) ∧
  Arv Z h c2 kc1 .int 2 [(.int 0), (.int 0)] (.int 0) ∧
  Arv Z h c3 kc2 .int 2 [(.int 0), (.int 0)] (.int 0) ∧
  Arv Z h c4 kc3 .int 2 [(.int 0), (.int 0)] (.int 0) ∧
  Exa Z h c5 cT ∧
  Fld Z h c5 cT "wins" "[I" (.ref c6) ∧
  Fld Z h c5 cT "draws" "[I" (.ref c7) ∧
  Fld Z h c5 cT "losses" "[I" (.ref c8) ∧
  Fld Z h c5 cT "matches" "I" (.int 0) ∧
  Fld Z h c5 cT "drawnMatches" "I" (.int 0) ∧
  Arv Z h c6 kc4 .int 2 [(.int 0), (.int 0)] (.int 0) ∧
  Arv Z h c7 kc5 .int 2 [(.int 0), (.int 0)] (.int 0) ∧
  Arv Z h c8 kc6 .int 2 [(.int 0), (.int 0)] (.int 0) ∧
  Exa Z h c9 cA ∧
  Fld Z h c9 "java/util/AbstractList" "modCount" "I" (.int 1) ∧
  Fld Z h c9 cA "elementData" "[Ljava/lang/Object;" (.ref b290) ∧
  Fld Z h c9 cA "size" "I" (.int 1) ∧
  Exa Z h e0_ cR ∧
  Exa Z h b290 "[Ljava/lang/Object;" ∧
  Arv Z h b290 kb289 (.object "java/lang/Object") 10 [(.ref e0_), .null, .null, .null, .null, .null, .null, .null, .null, .null] .null ∧
  Ovr Z kb289 "java/lang/Object" ∧
  n0 ≤ c1 ∧
  c1 < c2 ∧
  c2 < c3 ∧
  c3 < c4 ∧
  c4 < c5 ∧
  c5 < c6 ∧
  c6 < c7 ∧
  c7 < c8 ∧
  c8 < c9 ∧
  c9 < b290 ∧
  s_WIN < n0 ∧
  s_LOSS < n0 ∧
  s_DRAW < n0 ∧
  s_SW < n0 ∧
  s_EM < n0 ∧
  e0_ < n0
def Qm294 (Z : State) (n0 : Nat) (s_WIN : Nat) (s_LOSS : Nat) (s_DRAW : Nat) (s_SW : Nat) (s_EM : Nat) (e0_ : Nat) (c1 : Nat) (c2 : Nat) (c3 : Nat) (c4 : Nat) (c5 : Nat) (c6 : Nat) (c7 : Nat) (c8 : Nat) (c9 : Nat) (k901 : ClassId) (k902 : ClassId) (kc1 : ClassId) (kc2 : ClassId) (kc3 : ClassId) (kc4 : ClassId) (kc5 : ClassId) (kc6 : ClassId) (v : Option Value) (h : Heap) (L : List Loc) : Prop := ∃ (kb289 : ClassId) (b290 : Nat), v = none ∧ Fr n0 L ∧ St10 Z h n0 s_WIN s_LOSS s_DRAW s_SW s_EM e0_ c1 c2 c3 c4 c5 c6 c7 c8 c9 b290 k901 k902 kc1 kc2 kc3 kc4 kc5 kc6 kb289
theorem m294 (l : Launch) (Z : State) (a0 : Array Value) (hw : HW a0 Z) (ws : List Jvm.Cond) (h0 : Heap) (n0 : Nat) (s_WIN : Nat) (s_LOSS : Nat) (s_DRAW : Nat) (s_SW : Nat) (s_EM : Nat) (e0_ : Nat) (c1 : Nat) (c2 : Nat) (c3 : Nat) (c4 : Nat) (c5 : Nat) (c6 : Nat) (c7 : Nat) (c8 : Nat) (c9 : Nat) (k901 : ClassId) (k902 : ClassId) (kc1 : ClassId) (kc2 : ClassId) (kc3 : ClassId) (kc4 : ClassId) (kc5 : ClassId) (kc6 : ClassId) (P : St7 Z h0 n0 s_WIN s_LOSS s_DRAW s_SW s_EM e0_ c1 c2 c3 c4 c5 c6 c7 c8 c9 k901 k902 kc1 kc2 kc3 kc4 kc5 kc6) :
    MC l Z y8 jdk_38_method_24_code 4 none ws rm_3_1_10_41 #[(.ref c9), (.ref e0_), (.ref s_EM), (.int 0)] h0 (Qm294 Z n0 s_WIN s_LOSS s_DRAW s_SW s_EM e0_ c1 c2 c3 c4 c5 c6 c7 c8 c9 k901 k902 kc1 kc2 kc3 kc4 kc5 kc6) := by
  obtain ⟨S_WIN, S_LOSS, S_DRAW, S__SwitchMap_com_example_g, S_DEFAULTCAPACITY_EMPTY_EL, E_s_WIN, F_s_WIN_ordinal, E_s_LOSS, F_s_LOSS_ordinal, E_s_DRAW, F_s_DRAW_ordinal, V_s_SW, V_s_EM, E_c1, F_c1_wins, F_c1_draws, F_c1_losses, F_c1_matches, F_c1_drawnMatches, V_c2, V_c3, V_c4, E_c5, F_c5_wins, F_c5_draws, F_c5_losses, F_c5_matches, F_c5_drawnMatches, V_c6, V_c7, V_c8, E_c9, F_c9_modCount, F_c9_elementData, F_c9_s, E_e0_, g_c1, lt_c1_c2, lt_c2_c3, lt_c3_c4, lt_c4_c5, lt_c5_c6, lt_c6_c7, lt_c7_c8, lt_c8_c9, od_s_WIN, od_s_LOSS, od_s_DRAW, od_s_SW, od_s_EM, od_e0_⟩ := id P
  refine own_met (plainFor_of_name pn8) fun p e s m below meth c s₁ X0 hx hZ Y hml hO hnm hlk hret e0 => f_cast (f' := mkF m 0 #[(rv c9), (rv e0_), (rv s_EM), (iv 0)] []) (by first | (simp [entryFrame, mkF, argsToLocals, Value.category]; done) | rfl) ?_
  have N0 := Fr.nil n0
  refine iN X0 hx (hb Y d8_0) rfl <| aN X0 hx (hb Y d8_1) rfl rfl <| f_len X0 hx hZ e0 V_s_EM (hb Y d8_2) <| cN X0 hx (hb Y d8_3) <| aN X0 hx (hb Y d8_6) rfl rfl ?_
  have P291 : St7 Z h0 n0 s_WIN s_LOSS s_DRAW s_SW s_EM e0_ c1 c2 c3 c4 c5 c6 c7 c8 c9 k901 k902 kc1 kc2 kc3 kc4 kc5 kc6 := ⟨S_WIN, S_LOSS, S_DRAW, S__SwitchMap_com_example_g, S_DEFAULTCAPACITY_EMPTY_EL, E_s_WIN, F_s_WIN_ordinal, E_s_LOSS, F_s_LOSS_ordinal, E_s_DRAW, F_s_DRAW_ordinal, V_s_SW, V_s_EM, E_c1, F_c1_wins, F_c1_draws, F_c1_losses, F_c1_matches, F_c1_drawnMatches, V_c2, V_c3, V_c4, E_c5, F_c5_wins, F_c5_draws, F_c5_losses, F_c5_matches, F_c5_drawnMatches, V_c6, V_c7, V_c8, E_c9, F_c9_modCount, F_c9_elementData, F_c9_s, E_e0_, g_c1, lt_c1_c2, lt_c2_c3, lt_c3_c4, lt_c4_c5, lt_c5_c6, lt_c6_c7, lt_c7_c8, lt_c8_c9, od_s_WIN, od_s_LOSS, od_s_DRAW, od_s_SW, od_s_EM, od_e0_⟩
  refine pV X0 hx hZ hO (by rw [hml]; rfl) (w65 hw) (w66 hw) (w67 hw) (w22 hw) (w23 hw) (w69 hw) e0 E_c9 (argsL := []) (rest := []) (m288 l Z a0 hw [] h0 n0 s_WIN s_LOSS s_DRAW s_SW s_EM e0_ c1 c2 c3 c4 c5 c6 c7 c8 c9 k901 k902 kc1 kc2 kc3 kc4 kc5 kc6 P291) (lenOf pd6 rfl) (hb Y d8_7) fun T247 L247 v247 X247 hQ247 => ?_
  obtain ⟨kb289, b290, rfl, N247q, P247⟩ := hQ247
  obtain ⟨S_WIN, S_LOSS, S_DRAW, S__SwitchMap_com_example_g, S_DEFAULTCAPACITY_EMPTY_EL, E_s_WIN, F_s_WIN_ordinal, E_s_LOSS, F_s_LOSS_ordinal, E_s_DRAW, F_s_DRAW_ordinal, V_s_SW, V_s_EM, E_c1, F_c1_wins, F_c1_draws, F_c1_losses, F_c1_matches, F_c1_drawnMatches, V_c2, V_c3, V_c4, E_c5, F_c5_wins, F_c5_draws, F_c5_losses, F_c5_matches, F_c5_drawnMatches, V_c6, V_c7, V_c8, E_c9, F_c9_modCount, F_c9_elementData, F_c9_s, E_e0_, E_b290, V_b290, O_b290, g_c1, lt_c1_c2, lt_c2_c3, lt_c3_c4, lt_c4_c5, lt_c5_c6, lt_c6_c7, lt_c7_c8, lt_c8_c9, lt_c9_b290, od_s_WIN, od_s_LOSS, od_s_DRAW, od_s_SW, od_s_EM, od_e0_⟩ := id P247
  have N247 := Fr.app N0 N247q
  refine f_astoreN X247 hx (L' := #[(rv c9), (rv e0_), (rv b290), (iv 0)]) (hb Y d8_10) rfl rfl <| aN X247 hx (hb Y d8_11) rfl rfl <| iN X247 hx (hb Y d8_12) rfl <| aN X247 hx (hb Y d8_13) rfl rfl <| f_ast X247 hx hZ rfl V_b290 rfl (own_stoV V_b290 O_b290 (Ins.of_exa E_e0_ (w81 hw))) rfl 0 (hb Y d8_14) fun T292 h292 X292 e292 W292 V292 => ?_
  have N292x := Fr.snoc X292 N247 (by omega : n0 ≤ b290)
  refine aN X292 hx (hb Y d8_15) rfl rfl <| iN X292 hx (hb Y d8_16) rfl <| iK X292 hx (z := 1) (hb Y d8_17) <| iA X292 hx (z := 1) (hb Y d8_18) ?_
  replace F_c9_s := (fo W292 F_c9_s)
  replace E_c9 := (xw W292 E_c9)
  refine f_putF X292 hx hZ hO (w58 hw) Via.refl e292 F_c9_s E_c9 (Or.inl (w59 hw)) (w22 hw) (ty := .int) (by decide) rfl rfl (hb Y d8_19) fun T293 h293 X293 e293 W293 => ?_
  have N293x := Fr.snoc X293 N292x (by omega : n0 ≤ c9)
  exact f_ret0 X293 hx hlk hret (hb Y d8_22) (QQ := (Qm294 Z n0 s_WIN s_LOSS s_DRAW s_SW s_EM e0_ c1 c2 c3 c4 c5 c6 c7 c8 c9 k901 k902 kc1 kc2 kc3 kc4 kc5 kc6)) (by rw [e293]; exact ⟨kb289, b290, rfl, N293x, (Sta.wr W293 (Sta.wr W292 S_WIN)), (Sta.wr W293 (Sta.wr W292 S_LOSS)), (Sta.wr W293 (Sta.wr W292 S_DRAW)), (Sta.wr W293 (Sta.wr W292 S__SwitchMap_com_example_g)), (Sta.wr W293 (Sta.wr W292 S_DEFAULTCAPACITY_EMPTY_EL)), (xw W293 (xw W292 E_s_WIN)), (fo W293 (fo W292 F_s_WIN_ordinal)), (xw W293 (xw W292 E_s_LOSS)), (fo W293 (fo W292 F_s_LOSS_ordinal)), (xw W293 (xw W292 E_s_DRAW)), (fo W293 (fo W292 F_s_DRAW_ordinal)), (vo (vo V_s_SW W292) W293), (vo (vo V_s_EM W292) W293), (xw W293 (xw W292 E_c1)), (fo W293 (fo W292 F_c1_wins)), (fo W293 (fo W292 F_c1_draws)), (fo W293 (fo W292 F_c1_losses)), (fo W293 (fo W292 F_c1_matches)), (fo W293 (fo W292 F_c1_drawnMatches)), (vo (vo V_c2 W292) W293), (vo (vo V_c3 W292) W293), (vo (vo V_c4 W292) W293), (xw W293 (xw W292 E_c5)), (fo W293 (fo W292 F_c5_wins)), (fo W293 (fo W292 F_c5_draws)), (fo W293 (fo W292 F_c5_losses)), (fo W293 (fo W292 F_c5_matches)), (fo W293 (fo W292 F_c5_drawnMatches)), (vo (vo V_c6 W292) W293), (vo (vo V_c7 W292) W293), (vo (vo V_c8 W292) W293), (xw W293 E_c9), (Fld.other W293 (fo W292 F_c9_modCount) (Or.inr (slot_ne (Or.inl (w41 hw)) (Or.inl (w59 hw)) (by decide) (t := .int) (t' := .int) (by decide) (by decide)))), (Fld.other W293 (fo W292 F_c9_elementData) (Or.inr (slot_ne (Or.inl (w44 hw)) (Or.inl (w59 hw)) (by decide) (t := (.array (.object "java/lang/Object"))) (t' := .int) (by decide) (by decide)))), (Fld.same W293 F_c9_s), (xw W293 (xw W292 E_e0_)), (xw W293 (xw W292 E_b290)), (vo V292 W293), O_b290, g_c1, lt_c1_c2, lt_c2_c3, lt_c3_c4, lt_c4_c5, lt_c5_c6, lt_c6_c7, lt_c7_c8, lt_c8_c9, lt_c9_b290, od_s_WIN, od_s_LOSS, od_s_DRAW, od_s_SW, od_s_EM, od_e0_⟩) (by decide) (by decide)
def St11 (Z : State) (h : Heap) (n0 : Nat) (s_WIN : Nat) (s_LOSS : Nat) (s_DRAW : Nat) (s_SW : Nat) (s_EM : Nat) (e0_ : Nat) (c1 : Nat) (c2 : Nat) (c3 : Nat) (c4 : Nat) (c5 : Nat) (c6 : Nat) (c7 : Nat) (c8 : Nat) (c9 : Nat) (k901 : ClassId) (k902 : ClassId) (kc1 : ClassId) (kc2 : ClassId) (kc3 : ClassId) (kc4 : ClassId) (kc5 : ClassId) (kc6 : ClassId) : Prop :=
  Sta Z h cR "WIN" "Lcom/example/gamesmith/gamesmith/game/Result;" (.ref s_WIN) ∧
  Sta Z h cR "LOSS" "Lcom/example/gamesmith/gamesmith/game/Result;" (.ref s_LOSS) ∧
  Sta Z h cR "DRAW" "Lcom/example/gamesmith/gamesmith/game/Result;" (.ref s_DRAW) ∧
  Sta Z h "com/example/gamesmith/gamesmith/arena/Tally$1" "$SwitchMap$com$example$gamesmith$gamesmith$game$Result" "[I" (.ref s_SW) ∧
  Sta Z h cA "DEFAULTCAPACITY_EMPTY_ELEMENTDATA" "[Ljava/lang/Object;" (.ref s_EM) ∧
  Exa Z h s_WIN cR ∧
  Fld Z h s_WIN "java/lang/Enum" "ordinal" "I" (.int 0) ∧
  Exa Z h s_LOSS cR ∧
  Fld Z h s_LOSS "java/lang/Enum" "ordinal" "I" (.int 1) ∧
  Exa Z h s_DRAW cR ∧
  Fld Z h s_DRAW "java/lang/Enum" "ordinal" "I" (.int 2) ∧
  Arv Z h s_SW k901 .int 3 [(.int 1), (.int 3), (.int 2)] (.int 0) ∧
  Arv Z h s_EM k902 (.object "java/lang/Object") 0 [] .null ∧
  Exa Z h c1 cT ∧
  Fld Z h c1 cT "wins" "[I" (.ref c2) ∧
  Fld Z h c1 cT "draws" "[I" (.ref c3) ∧
  Fld Z h c1 cT "losses" "[I" (.ref c4) ∧
  Fld Z h c1 cT "matches" "I" (.int 0) ∧
  Fld Z h c1 cT "drawnMatches" "I" (.int 0) ∧
  Arv Z h c2 kc1 .int 2 [(.int 0), (.int 0)] (.int 0) ∧
  Arv Z h c3 kc2 .int 2 [(.int 0), (.int 0)] (.int 0) ∧
  Arv Z h c4 kc3 .int 2 [(.int 0), (.int 0)] (.int 0) ∧
  Exa Z h c5 cT ∧
  Fld Z h c5 cT "wins" "[I" (.ref c6) ∧
  Fld Z h c5 cT "draws" "[I" (.ref c7) ∧
  Fld Z h c5 cT "losses" "[I" (.ref c8) ∧
  Fld Z h c5 cT "matches" "I" (.int 0) ∧
  Fld Z h c5 cT "drawnMatches" "I" (.int 0) ∧
  Arv Z h c6 kc4 .int 2 [(.int 0), (.int 0)] (.int 0) ∧
  Arv Z h c7 kc5 .int 2 [(.int 0), (.int 0)] (.int 0) ∧
  Arv Z h c8 kc6 .int 2 [(.int 0), (.int 0)] (.int 0) ∧
  Exa Z h c9 cA ∧
  Fld Z h c9 "java/util/AbstractList" "modCount" "I" (.int 0) ∧
  Fld Z h c9 cA "elementData" "[Ljava/lang/Object;" (.ref s_EM) ∧
  Fld Z h c9 cA "size" "I" (.int 0) ∧
  Exa Z h e0_ cR ∧
  n0 ≤ c1 ∧
  c1 < c2 ∧
  c2 < c3 ∧
  c3 < c4 ∧
  c4 < c5 ∧
  c5 < c6 ∧
  c6 < c7 ∧
  c7 < c8 ∧
  c8 < c9 ∧
  s_WIN < n0 ∧
  s_LOSS < n0 ∧
  s_DRAW < n0 ∧
  s_SW < n0 ∧
  s_EM < n0 ∧
  e0_ < n0
def St12 (Z : State) (h : Heap) (n0 : Nat) (s_WIN : Nat) (s_LOSS : Nat) (s_DRAW : Nat) (s_SW : Nat) (s_EM : Nat) (e0_ : Nat) (c1 : Nat) (c2 : Nat) (c3 : Nat) (c4 : Nat) (c5 : Nat) (c6 : Nat) (c7 : Nat) (c8 : Nat) (c9 : Nat) (b296 : Nat) (k901 : ClassId) (k902 : ClassId) (kc1 : ClassId) (kc2 : ClassId) (kc3 : ClassId) (kc4 : ClassId) (kc5 : ClassId) (kc6 : ClassId) (kb295 : ClassId) : Prop :=
  Sta Z h cR "WIN" "Lcom/example/gamesmith/gamesmith/game/Result;" (.ref s_WIN) ∧
  Sta Z h cR "LOSS" "Lcom/example/gamesmith/gamesmith/game/Result;" (.ref s_LOSS) ∧
  Sta Z h cR "DRAW" "Lcom/example/gamesmith/gamesmith/game/Result;" (.ref s_DRAW) ∧
  Sta Z h "com/example/gamesmith/gamesmith/arena/Tally$1" "$SwitchMap$com$example$gamesmith$gamesmith$game$Result" "[I" (.ref s_SW) ∧
  Sta Z h cA "DEFAULTCAPACITY_EMPTY_ELEMENTDATA" "[Ljava/lang/Object;" (.ref s_EM) ∧
  Exa Z h s_WIN cR ∧
  Fld Z h s_WIN "java/lang/Enum" "ordinal" "I" (.int 0) ∧
  Exa Z h s_LOSS cR ∧
  Fld Z h s_LOSS "java/lang/Enum" "ordinal" "I" (.int 1) ∧
  Exa Z h s_DRAW cR ∧
  Fld Z h s_DRAW "java/lang/Enum" "ordinal" "I" (.int 2) ∧
  Arv Z h s_SW k901 .int 3 [(.int 1), (.int 3), (.int 2)] (.int 0) ∧
  Arv Z h s_EM k902 (.object "java/lang/Object") 0 [] .null ∧
  Exa Z h c1 cT ∧
  Fld Z h c1 cT "wins" "[I" (.ref c2) ∧
  Fld Z h c1 cT "draws" "[I" (.ref c3) ∧
  Fld Z h c1 cT "losses" "[I" (.ref c4) ∧
  Fld Z h c1 cT "matches" "I" (.int 0) ∧
  Fld Z h c1 cT "drawnMatches" "I" (.int 0) ∧
  Arv Z h c2 kc1 .int 2 [(.int 0), (.int 0)] (.int 0) ∧
  Arv Z h c3 kc2 .int 2 [(.int 0), (.int 0)] (.int 0) ∧
  Arv Z h c4 kc3 .int 2 [(.int 0), (.int 0)] (.int 0) ∧
  Exa Z h c5 cT ∧
  Fld Z h c5 cT "wins" "[I" (.ref c6) ∧
  Fld Z h c5 cT "draws" "[I" (.ref c7) ∧
  Fld Z h c5 cT "losses" "[I" (.ref c8) ∧
  Fld Z h c5 cT "matches" "I" (.int 0) ∧
  Fld Z h c5 cT "drawnMatches" "I" (.int 0) ∧
  Arv Z h c6 kc4 .int 2 [(.int 0), (.int 0)] (.int 0) ∧
  Arv Z h c7 kc5 .int 2 [(.int 0), (.int 0)] (.int 0) ∧
  Arv Z h c8 kc6 .int 2 [(.int 0), (.int 0)] (.int 0) ∧
  Exa Z h c9 cA ∧
  Fld Z h c9 "java/util/AbstractList" "modCount" "I" (.int 1) ∧
  Fld Z h c9 cA "elementData" "[Ljava/lang/Object;" (.ref b296) ∧
  Fld Z h c9 cA "size" "I" (.int 1) ∧
  Exa Z h e0_ cR ∧
  Exa Z h b296 "[Ljava/lang/Object;" ∧
  Arv Z h b296 kb295 (.object "java/lang/Object") 10 [(.ref e0_), .null, .null, .null, .null, .null, .null, .null, .null, .null] .null ∧
  Ovr Z kb295 "java/lang/Object" ∧
  n0 ≤ c1 ∧
  c1 < c2 ∧
  c2 < c3 ∧
  c3 < c4 ∧
  c4 < c5 ∧
  c5 < c6 ∧
  c6 < c7 ∧
  c7 < c8 ∧
  c8 < c9 ∧
  c9 < b296 ∧
  s_WIN < n0 ∧
  s_LOSS < n0 ∧
  s_DRAW < n0 ∧
  s_SW < n0 ∧
  s_EM < n0 ∧
  e0_ < n0
def Qm298 (Z : State) (n0 : Nat) (s_WIN : Nat) (s_LOSS : Nat) (s_DRAW : Nat) (s_SW : Nat) (s_EM : Nat) (e0_ : Nat) (c1 : Nat) (c2 : Nat) (c3 : Nat) (c4 : Nat) (c5 : Nat) (c6 : Nat) (c7 : Nat) (c8 : Nat) (c9 : Nat) (k901 : ClassId) (k902 : ClassId) (kc1 : ClassId) (kc2 : ClassId) (kc3 : ClassId) (kc4 : ClassId) (kc5 : ClassId) (kc6 : ClassId) (v : Option Value) (h : Heap) (L : List Loc) : Prop := ∃ (kb295 : ClassId) (b296 : Nat), v = some (.int 1) ∧ Fr n0 L ∧ St12 Z h n0 s_WIN s_LOSS s_DRAW s_SW s_EM e0_ c1 c2 c3 c4 c5 c6 c7 c8 c9 b296 k901 k902 kc1 kc2 kc3 kc4 kc5 kc6 kb295
theorem m298 (l : Launch) (Z : State) (a0 : Array Value) (hw : HW a0 Z) (ws : List Jvm.Cond) (h0 : Heap) (n0 : Nat) (s_WIN : Nat) (s_LOSS : Nat) (s_DRAW : Nat) (s_SW : Nat) (s_EM : Nat) (e0_ : Nat) (c1 : Nat) (c2 : Nat) (c3 : Nat) (c4 : Nat) (c5 : Nat) (c6 : Nat) (c7 : Nat) (c8 : Nat) (c9 : Nat) (k901 : ClassId) (k902 : ClassId) (kc1 : ClassId) (kc2 : ClassId) (kc3 : ClassId) (kc4 : ClassId) (kc5 : ClassId) (kc6 : ClassId) (P : St11 Z h0 n0 s_WIN s_LOSS s_DRAW s_SW s_EM e0_ c1 c2 c3 c4 c5 c6 c7 c8 c9 k901 k902 kc1 kc2 kc3 kc4 kc5 kc6) :
    MC l Z y7 jdk_38_method_25_code 2 (some .boolean) ws rm_4_1_10_56 #[(.ref c9), (.ref e0_)] h0 (Qm298 Z n0 s_WIN s_LOSS s_DRAW s_SW s_EM e0_ c1 c2 c3 c4 c5 c6 c7 c8 c9 k901 k902 kc1 kc2 kc3 kc4 kc5 kc6) := by
  obtain ⟨S_WIN, S_LOSS, S_DRAW, S__SwitchMap_com_example_g, S_DEFAULTCAPACITY_EMPTY_EL, E_s_WIN, F_s_WIN_ordinal, E_s_LOSS, F_s_LOSS_ordinal, E_s_DRAW, F_s_DRAW_ordinal, V_s_SW, V_s_EM, E_c1, F_c1_wins, F_c1_draws, F_c1_losses, F_c1_matches, F_c1_drawnMatches, V_c2, V_c3, V_c4, E_c5, F_c5_wins, F_c5_draws, F_c5_losses, F_c5_matches, F_c5_drawnMatches, V_c6, V_c7, V_c8, E_c9, F_c9_modCount, F_c9_elementData, F_c9_s, E_e0_, g_c1, lt_c1_c2, lt_c2_c3, lt_c3_c4, lt_c4_c5, lt_c5_c6, lt_c6_c7, lt_c7_c8, lt_c8_c9, od_s_WIN, od_s_LOSS, od_s_DRAW, od_s_SW, od_s_EM, od_e0_⟩ := id P
  refine own_met (plainFor_of_name pn7) fun p e s m below meth c s₁ X0 hx hZ Y hml hO hnm hlk hret e0 => f_cast (f' := mkF m 0 #[(rv c9), (rv e0_)] []) (by first | (simp [entryFrame, mkF, argsToLocals, Value.category]; done) | rfl) ?_
  have N0 := Fr.nil n0
  refine aN X0 hx (hb Y d7_0) rfl rfl <| f_dup X0 hx (hb Y d7_1) rfl <| gF X0 hx hZ hO (w56 hw) (Via.of (w57 hw)) e0 F_c9_modCount (hb Y d7_2) fun T195 X195 e195 => ?_
  refine iK X195 hx (z := 1) (hb Y d7_5) <| iA X195 hx (z := 1) (hb Y d7_6) <| f_putF X195 hx hZ hO (w56 hw) (Via.of (w57 hw)) e195 F_c9_modCount E_c9 (Or.inl (w41 hw)) (w22 hw) (ty := .int) (by decide) rfl rfl (hb Y d7_7) fun T196 h196 X196 e196 W196 => ?_
  have N196x := Fr.snoc X196 N0 (by omega : n0 ≤ c9)
  refine aN X196 hx (hb Y d7_10) rfl rfl <| aN X196 hx (hb Y d7_11) rfl rfl <| aN X196 hx (hb Y d7_12) rfl rfl ?_
  replace F_c9_elementData := (Fld.other W196 F_c9_elementData (Or.inr (slot_ne (Or.inl (w44 hw)) (Or.inl (w41 hw)) (by decide) (t := (.array (.object "java/lang/Object"))) (t' := .int) (by decide) (by decide))))
  refine gF X196 hx hZ hO (w43 hw) Via.refl e196 F_c9_elementData (hb Y d7_13) fun T197 X197 e197 => ?_
  refine aN X197 hx (hb Y d7_16) rfl rfl ?_
  replace F_c9_s := (Fld.other W196 F_c9_s (Or.inr (slot_ne (Or.inl (w59 hw)) (Or.inl (w41 hw)) (by decide) (t := .int) (t' := .int) (by decide) (by decide))))
  refine gF X197 hx hZ hO (w58 hw) Via.refl e197 F_c9_s (hb Y d7_17) fun T198 X198 e198 => ?_
  have P297 : St7 Z h196 n0 s_WIN s_LOSS s_DRAW s_SW s_EM e0_ c1 c2 c3 c4 c5 c6 c7 c8 c9 k901 k902 kc1 kc2 kc3 kc4 kc5 kc6 := ⟨(Sta.wr W196 S_WIN), (Sta.wr W196 S_LOSS), (Sta.wr W196 S_DRAW), (Sta.wr W196 S__SwitchMap_com_example_g), (Sta.wr W196 S_DEFAULTCAPACITY_EMPTY_EL), (xw W196 E_s_WIN), (fo W196 F_s_WIN_ordinal), (xw W196 E_s_LOSS), (fo W196 F_s_LOSS_ordinal), (xw W196 E_s_DRAW), (fo W196 F_s_DRAW_ordinal), (vo V_s_SW W196), (vo V_s_EM W196), (xw W196 E_c1), (fo W196 F_c1_wins), (fo W196 F_c1_draws), (fo W196 F_c1_losses), (fo W196 F_c1_matches), (fo W196 F_c1_drawnMatches), (vo V_c2 W196), (vo V_c3 W196), (vo V_c4 W196), (xw W196 E_c5), (fo W196 F_c5_wins), (fo W196 F_c5_draws), (fo W196 F_c5_losses), (fo W196 F_c5_matches), (fo W196 F_c5_drawnMatches), (vo V_c6 W196), (vo V_c7 W196), (vo V_c8 W196), (xw W196 E_c9), (Fld.same W196 F_c9_modCount), F_c9_elementData, F_c9_s, (xw W196 E_e0_), g_c1, lt_c1_c2, lt_c2_c3, lt_c3_c4, lt_c4_c5, lt_c5_c6, lt_c6_c7, lt_c7_c8, lt_c8_c9, od_s_WIN, od_s_LOSS, od_s_DRAW, od_s_SW, od_s_EM, od_e0_⟩
  replace E_c9 := (xw W196 E_c9)
  refine pV X198 hx hZ hO (by rw [hml]; rfl) (w60 hw) (w61 hw) (w62 hw) (w22 hw) (w23 hw) (w64 hw) e198 E_c9 (argsL := [(.ref e0_), (.ref s_EM), (.int 0)]) (rest := []) (m294 l Z a0 hw [] h196 n0 s_WIN s_LOSS s_DRAW s_SW s_EM e0_ c1 c2 c3 c4 c5 c6 c7 c8 c9 k901 k902 kc1 kc2 kc3 kc4 kc5 kc6 P297) (lenOf pd7 rfl) (hb Y d7_20) fun T199 L199 v199 X199 hQ199 => ?_
  obtain ⟨kb295, b296, rfl, N199q, P199⟩ := hQ199
  obtain ⟨S_WIN, S_LOSS, S_DRAW, S__SwitchMap_com_example_g, S_DEFAULTCAPACITY_EMPTY_EL, E_s_WIN, F_s_WIN_ordinal, E_s_LOSS, F_s_LOSS_ordinal, E_s_DRAW, F_s_DRAW_ordinal, V_s_SW, V_s_EM, E_c1, F_c1_wins, F_c1_draws, F_c1_losses, F_c1_matches, F_c1_drawnMatches, V_c2, V_c3, V_c4, E_c5, F_c5_wins, F_c5_draws, F_c5_losses, F_c5_matches, F_c5_drawnMatches, V_c6, V_c7, V_c8, E_c9, F_c9_modCount, F_c9_elementData, F_c9_s, E_e0_, E_b296, V_b296, O_b296, g_c1, lt_c1_c2, lt_c2_c3, lt_c3_c4, lt_c4_c5, lt_c5_c6, lt_c6_c7, lt_c7_c8, lt_c8_c9, lt_c9_b296, od_s_WIN, od_s_LOSS, od_s_DRAW, od_s_SW, od_s_EM, od_e0_⟩ := id P199
  have N199 := Fr.app N196x N199q
  refine iK X199 hx (z := 1) (hb Y d7_23) ?_
  exact f_ret X199 hx hlk (i := .ireturn) hret rfl (Or.inl ⟨rfl, Or.inr (Or.inl rfl), _, rfl⟩) (hb Y d7_24) (QQ := (Qm298 Z n0 s_WIN s_LOSS s_DRAW s_SW s_EM e0_ c1 c2 c3 c4 c5 c6 c7 c8 c9 k901 k902 kc1 kc2 kc3 kc4 kc5 kc6)) ⟨kb295, b296, rfl, N199, S_WIN, S_LOSS, S_DRAW, S__SwitchMap_com_example_g, S_DEFAULTCAPACITY_EMPTY_EL, E_s_WIN, F_s_WIN_ordinal, E_s_LOSS, F_s_LOSS_ordinal, E_s_DRAW, F_s_DRAW_ordinal, V_s_SW, V_s_EM, E_c1, F_c1_wins, F_c1_draws, F_c1_losses, F_c1_matches, F_c1_drawnMatches, V_c2, V_c3, V_c4, E_c5, F_c5_wins, F_c5_draws, F_c5_losses, F_c5_matches, F_c5_drawnMatches, V_c6, V_c7, V_c8, E_c9, F_c9_modCount, F_c9_elementData, F_c9_s, E_e0_, E_b296, V_b296, O_b296, g_c1, lt_c1_c2, lt_c2_c3, lt_c3_c4, lt_c4_c5, lt_c5_c6, lt_c6_c7, lt_c7_c8, lt_c8_c9, lt_c9_b296, od_s_WIN, od_s_LOSS, od_s_DRAW, od_s_SW, od_s_EM, od_e0_⟩ (by decide) (by decide)
def St13 (Z : State) (h : Heap) (n0 : Nat) (s_WIN : Nat) (s_LOSS : Nat) (s_DRAW : Nat) (s_SW : Nat) (s_EM : Nat) (e0_ : Nat) (e1_ : Nat) (c1 : Nat) (c2 : Nat) (c3 : Nat) (c4 : Nat) (c5 : Nat) (c6 : Nat) (c7 : Nat) (c8 : Nat) (c9 : Nat) (c10 : Nat) (k901 : ClassId) (k902 : ClassId) (kc1 : ClassId) (kc2 : ClassId) (kc3 : ClassId) (kc4 : ClassId) (kc5 : ClassId) (kc6 : ClassId) (kc7 : ClassId) : Prop :=
  Sta Z h cR "WIN" "Lcom/example/gamesmith/gamesmith/game/Result;" (.ref s_WIN) ∧
  Sta Z h cR "LOSS" "Lcom/example/gamesmith/gamesmith/game/Result;" (.ref s_LOSS) ∧
  Sta Z h cR "DRAW" "Lcom/example/gamesmith/gamesmith/game/Result;" (.ref s_DRAW) ∧
  Sta Z h "com/example/gamesmith/gamesmith/arena/Tally$1" "$SwitchMap$com$example$gamesmith$gamesmith$game$Result" "[I" (.ref s_SW) ∧
  Sta Z h cA "DEFAULTCAPACITY_EMPTY_ELEMENTDATA" "[Ljava/lang/Object;" (.ref s_EM) ∧
  Exa Z h s_WIN cR ∧
  Fld Z h s_WIN "java/lang/Enum" "ordinal" "I" (.int 0) ∧
  Exa Z h s_LOSS cR ∧
  Fld Z h s_LOSS "java/lang/Enum" "ordinal" "I" (.int 1) ∧
  Exa Z h s_DRAW cR ∧
  Fld Z h s_DRAW "java/lang/Enum" "ordinal" "I" (.int 2) ∧
  Arv Z h s_SW k901 .int 3 [(.int 1), (.int 3), (.int 2)] (.int 0) ∧
  Arv Z h s_EM k902 (.object "java/lang/Object") 0 [] .null ∧
  Exa Z h c1 cT ∧
  Fld Z h c1 cT "wins" "[I" (.ref c2) ∧
  Fld Z h c1 cT "draws" "[I" (.ref c3) ∧
  Fld Z h c1 cT "losses" "[I" (.ref c4) ∧
  Fld Z h c1 cT "matches" "I" (.int 0) ∧
  Fld Z h c1 cT "drawnMatches" "I" (.int 0) ∧
  Arv Z h c2 kc1 .int 2 [(.int 0), (.int 0)] (.int 0) ∧
  Arv Z h c3 kc2 .int 2 [(.int 0), (.int 0)] (.int 0) ∧
  Arv Z h c4 kc3 .int 2 [(.int 0), (.int 0)] (.int 0) ∧
  Exa Z h c5 cT ∧
  Fld Z h c5 cT "wins" "[I" (.ref c6) ∧
  Fld Z h c5 cT "draws" "[I" (.ref c7) ∧
  Fld Z h c5 cT "losses" "[I" (.ref c8) ∧
  Fld Z h c5 cT "matches" "I" (.int 0) ∧
  Fld Z h c5 cT "drawnMatches" "I" (.int 0) ∧
  Arv Z h c6 kc4 .int 2 [(.int 0), (.int 0)] (.int 0) ∧
  Arv Z h c7 kc5 .int 2 [(.int 0), (.int 0)] (.int 0) ∧
  Arv Z h c8 kc6 .int 2 [(.int 0), (.int 0)] (.int 0) ∧
  Exa Z h c9 cA ∧
  Fld Z h c9 "java/util/AbstractList" "modCount" "I" (.int 2) ∧
  Fld Z h c9 cA "elementData" "[Ljava/lang/Object;" (.ref c10) ∧
  Fld Z h c9 cA "size" "I" (.int 1) ∧
  Exa Z h e0_ cR ∧
  Exa Z h c10 "[Ljava/lang/Object;" ∧
  Arv Z h c10 kc7 (.object "java/lang/Object") 10 [(.ref e0_), .null, .null, .null, .null, .null, .null, .null, .null, .null] .null ∧
  Ovr Z kc7 "java/lang/Object" ∧
  Exa Z h e1_ cR ∧
  n0 ≤ c1 ∧
  c1 < c2 ∧
  c2 < c3 ∧
  c3 < c4 ∧
  c4 < c5 ∧
  c5 < c6 ∧
  c6 < c7 ∧
  c7 < c8 ∧
  c8 < c9 ∧
  c9 < c10 ∧
  s_WIN < n0 ∧
  s_LOSS < n0 ∧
  s_DRAW < n0 ∧
  s_SW < n0 ∧
  s_EM < n0 ∧
  e0_ < n0 ∧
  e1_ < n0
def St14 (Z : State) (h : Heap) (n0 : Nat) (s_WIN : Nat) (s_LOSS : Nat) (s_DRAW : Nat) (s_SW : Nat) (s_EM : Nat) (e0_ : Nat) (e1_ : Nat) (c1 : Nat) (c2 : Nat) (c3 : Nat) (c4 : Nat) (c5 : Nat) (c6 : Nat) (c7 : Nat) (c8 : Nat) (c9 : Nat) (c10 : Nat) (k901 : ClassId) (k902 : ClassId) (kc1 : ClassId) (kc2 : ClassId) (kc3 : ClassId) (kc4 : ClassId) (kc5 : ClassId) (kc6 : ClassId) (kc7 : ClassId) : Prop :=
  Sta Z h cR "WIN" "Lcom/example/gamesmith/gamesmith/game/Result;" (.ref s_WIN) ∧
  Sta Z h cR "LOSS" "Lcom/example/gamesmith/gamesmith/game/Result;" (.ref s_LOSS) ∧
  Sta Z h cR "DRAW" "Lcom/example/gamesmith/gamesmith/game/Result;" (.ref s_DRAW) ∧
  Sta Z h "com/example/gamesmith/gamesmith/arena/Tally$1" "$SwitchMap$com$example$gamesmith$gamesmith$game$Result" "[I" (.ref s_SW) ∧
  Sta Z h cA "DEFAULTCAPACITY_EMPTY_ELEMENTDATA" "[Ljava/lang/Object;" (.ref s_EM) ∧
  Exa Z h s_WIN cR ∧
  Fld Z h s_WIN "java/lang/Enum" "ordinal" "I" (.int 0) ∧
  Exa Z h s_LOSS cR ∧
  Fld Z h s_LOSS "java/lang/Enum" "ordinal" "I" (.int 1) ∧
  Exa Z h s_DRAW cR ∧
  Fld Z h s_DRAW "java/lang/Enum" "ordinal" "I" (.int 2) ∧
  Arv Z h s_SW k901 .int 3 [(.int 1), (.int 3), (.int 2)] (.int 0) ∧
  Arv Z h s_EM k902 (.object "java/lang/Object") 0 [] .null ∧
  Exa Z h c1 cT ∧
  Fld Z h c1 cT "wins" "[I" (.ref c2) ∧
  Fld Z h c1 cT "draws" "[I" (.ref c3) ∧
  Fld Z h c1 cT "losses" "[I" (.ref c4) ∧
  Fld Z h c1 cT "matches" "I" (.int 0) ∧
  Fld Z h c1 cT "drawnMatches" "I" (.int 0) ∧
  Arv Z h c2 kc1 .int 2 [(.int 0), (.int 0)] (.int 0) ∧
  Arv Z h c3 kc2 .int 2 [(.int 0), (.int 0)] (.int 0) ∧
  Arv Z h c4 kc3 .int 2 [(.int 0), (.int 0)] (.int 0) ∧
  Exa Z h c5 cT ∧
  Fld Z h c5 cT "wins" "[I" (.ref c6) ∧
  Fld Z h c5 cT "draws" "[I" (.ref c7) ∧
  Fld Z h c5 cT "losses" "[I" (.ref c8) ∧
  Fld Z h c5 cT "matches" "I" (.int 0) ∧
  Fld Z h c5 cT "drawnMatches" "I" (.int 0) ∧
  Arv Z h c6 kc4 .int 2 [(.int 0), (.int 0)] (.int 0) ∧
  Arv Z h c7 kc5 .int 2 [(.int 0), (.int 0)] (.int 0) ∧
  Arv Z h c8 kc6 .int 2 [(.int 0), (.int 0)] (.int 0) ∧
  Exa Z h c9 cA ∧
  Fld Z h c9 "java/util/AbstractList" "modCount" "I" (.int 2) ∧
  Fld Z h c9 cA "elementData" "[Ljava/lang/Object;" (.ref c10) ∧
  Fld Z h c9 cA "size" "I" (.int 2) ∧
  Exa Z h e0_ cR ∧
  Exa Z h c10 "[Ljava/lang/Object;" ∧
  Arv Z h c10 kc7 (.object "java/lang/Object") 10 [(.ref e0_), (.ref e1_), .null, .null, .null, .null, .null, .null, .null, .null] .null ∧
  Ovr Z kc7 "java/lang/Object" ∧
  Exa Z h e1_ cR ∧
  n0 ≤ c1 ∧
  c1 < c2 ∧
  c2 < c3 ∧
  c3 < c4 ∧
  c4 < c5 ∧
  c5 < c6 ∧
  c6 < c7 ∧
  c7 < c8 ∧
  c8 < c9 ∧
  c9 < c10 ∧
  s_WIN < n0 ∧
  s_LOSS < n0 ∧
  s_DRAW < n0 ∧
  s_SW < n0 ∧
  s_EM < n0 ∧
  e0_ < n0 ∧
  e1_ < n0
def Qm324 (Z : State) (n0 : Nat) (s_WIN : Nat) (s_LOSS : Nat) (s_DRAW : Nat) (s_SW : Nat) (s_EM : Nat) (e0_ : Nat) (e1_ : Nat) (c1 : Nat) (c2 : Nat) (c3 : Nat) (c4 : Nat) (c5 : Nat) (c6 : Nat) (c7 : Nat) (c8 : Nat) (c9 : Nat) (c10 : Nat) (k901 : ClassId) (k902 : ClassId) (kc1 : ClassId) (kc2 : ClassId) (kc3 : ClassId) (kc4 : ClassId) (kc5 : ClassId) (kc6 : ClassId) (kc7 : ClassId) (v : Option Value) (h : Heap) (L : List Loc) : Prop := v = none ∧ Fr n0 L ∧ St14 Z h n0 s_WIN s_LOSS s_DRAW s_SW s_EM e0_ e1_ c1 c2 c3 c4 c5 c6 c7 c8 c9 c10 k901 k902 kc1 kc2 kc3 kc4 kc5 kc6 kc7
theorem m324 (l : Launch) (Z : State) (a0 : Array Value) (hw : HW a0 Z) (ws : List Jvm.Cond) (h0 : Heap) (n0 : Nat) (s_WIN : Nat) (s_LOSS : Nat) (s_DRAW : Nat) (s_SW : Nat) (s_EM : Nat) (e0_ : Nat) (e1_ : Nat) (c1 : Nat) (c2 : Nat) (c3 : Nat) (c4 : Nat) (c5 : Nat) (c6 : Nat) (c7 : Nat) (c8 : Nat) (c9 : Nat) (c10 : Nat) (k901 : ClassId) (k902 : ClassId) (kc1 : ClassId) (kc2 : ClassId) (kc3 : ClassId) (kc4 : ClassId) (kc5 : ClassId) (kc6 : ClassId) (kc7 : ClassId) (P : St13 Z h0 n0 s_WIN s_LOSS s_DRAW s_SW s_EM e0_ e1_ c1 c2 c3 c4 c5 c6 c7 c8 c9 c10 k901 k902 kc1 kc2 kc3 kc4 kc5 kc6 kc7) :
    MC l Z y8 jdk_38_method_24_code 4 none ws rm_0_0_0_0 #[(.ref c9), (.ref e1_), (.ref c10), (.int 1)] h0 (Qm324 Z n0 s_WIN s_LOSS s_DRAW s_SW s_EM e0_ e1_ c1 c2 c3 c4 c5 c6 c7 c8 c9 c10 k901 k902 kc1 kc2 kc3 kc4 kc5 kc6 kc7) := by
  obtain ⟨S_WIN, S_LOSS, S_DRAW, S__SwitchMap_com_example_g, S_DEFAULTCAPACITY_EMPTY_EL, E_s_WIN, F_s_WIN_ordinal, E_s_LOSS, F_s_LOSS_ordinal, E_s_DRAW, F_s_DRAW_ordinal, V_s_SW, V_s_EM, E_c1, F_c1_wins, F_c1_draws, F_c1_losses, F_c1_matches, F_c1_drawnMatches, V_c2, V_c3, V_c4, E_c5, F_c5_wins, F_c5_draws, F_c5_losses, F_c5_matches, F_c5_drawnMatches, V_c6, V_c7, V_c8, E_c9, F_c9_modCount, F_c9_elementData, F_c9_s, E_e0_, E_c10, V_c10, O_c10, E_e1_, g_c1, lt_c1_c2, lt_c2_c3, lt_c3_c4, lt_c4_c5, lt_c5_c6, lt_c6_c7, lt_c7_c8, lt_c8_c9, lt_c9_c10, od_s_WIN, od_s_LOSS, od_s_DRAW, od_s_SW, od_s_EM, od_e0_, od_e1_⟩ := id P
  refine own_met (plainFor_of_name pn8) fun p e s m below meth c s₁ X0 hx hZ Y hml hO hnm hlk hret e0 => f_cast (f' := mkF m 0 #[(rv c9), (rv e1_), (rv c10), (iv 1)] []) (by first | (simp [entryFrame, mkF, argsToLocals, Value.category]; done) | rfl) ?_
  have N0 := Fr.nil n0
  refine iN X0 hx (hb Y d8_0) rfl <| aN X0 hx (hb Y d8_1) rfl rfl <| f_len X0 hx hZ e0 V_c10 (hb Y d8_2) <| cY X0 hx (pc := 3) 11 (hb Y d8_3) <| aN X0 hx (hb Y d8_11) rfl rfl <| iN X0 hx (hb Y d8_12) rfl <| aN X0 hx (hb Y d8_13) rfl rfl <| f_ast X0 hx hZ e0 V_c10 rfl (own_stoV V_c10 O_c10 (Ins.of_exa E_e1_ (w81 hw))) rfl 1 (hb Y d8_14) fun T322 h322 X322 e322 W322 V322 => ?_
  have N322x := Fr.snoc X322 N0 (by omega : n0 ≤ c10)
  refine aN X322 hx (hb Y d8_15) rfl rfl <| iN X322 hx (hb Y d8_16) rfl <| iK X322 hx (z := 1) (hb Y d8_17) <| iA X322 hx (z := 2) (hb Y d8_18) ?_
  replace F_c9_s := (fo W322 F_c9_s)
  replace E_c9 := (xw W322 E_c9)
  refine f_putF X322 hx hZ hO (w58 hw) Via.refl e322 F_c9_s E_c9 (Or.inl (w59 hw)) (w22 hw) (ty := .int) (by decide) rfl rfl (hb Y d8_19) fun T323 h323 X323 e323 W323 => ?_
  have N323x := Fr.snoc X323 N322x (by omega : n0 ≤ c9)
  exact f_ret0 X323 hx hlk hret (hb Y d8_22) (QQ := (Qm324 Z n0 s_WIN s_LOSS s_DRAW s_SW s_EM e0_ e1_ c1 c2 c3 c4 c5 c6 c7 c8 c9 c10 k901 k902 kc1 kc2 kc3 kc4 kc5 kc6 kc7)) (by rw [e323]; exact ⟨rfl, N323x, (Sta.wr W323 (Sta.wr W322 S_WIN)), (Sta.wr W323 (Sta.wr W322 S_LOSS)), (Sta.wr W323 (Sta.wr W322 S_DRAW)), (Sta.wr W323 (Sta.wr W322 S__SwitchMap_com_example_g)), (Sta.wr W323 (Sta.wr W322 S_DEFAULTCAPACITY_EMPTY_EL)), (xw W323 (xw W322 E_s_WIN)), (fo W323 (fo W322 F_s_WIN_ordinal)), (xw W323 (xw W322 E_s_LOSS)), (fo W323 (fo W322 F_s_LOSS_ordinal)), (xw W323 (xw W322 E_s_DRAW)), (fo W323 (fo W322 F_s_DRAW_ordinal)), (vo (vo V_s_SW W322) W323), (vo (vo V_s_EM W322) W323), (xw W323 (xw W322 E_c1)), (fo W323 (fo W322 F_c1_wins)), (fo W323 (fo W322 F_c1_draws)), (fo W323 (fo W322 F_c1_losses)), (fo W323 (fo W322 F_c1_matches)), (fo W323 (fo W322 F_c1_drawnMatches)), (vo (vo V_c2 W322) W323), (vo (vo V_c3 W322) W323), (vo (vo V_c4 W322) W323), (xw W323 (xw W322 E_c5)), (fo W323 (fo W322 F_c5_wins)), (fo W323 (fo W322 F_c5_draws)), (fo W323 (fo W322 F_c5_losses)), (fo W323 (fo W322 F_c5_matches)), (fo W323 (fo W322 F_c5_drawnMatches)), (vo (vo V_c6 W322) W323), (vo (vo V_c7 W322) W323), (vo (vo V_c8 W322) W323), (xw W323 E_c9), (Fld.other W323 (fo W322 F_c9_modCount) (Or.inr (slot_ne (Or.inl (w41 hw)) (Or.inl (w59 hw)) (by decide) (t := .int) (t' := .int) (by decide) (by decide)))), (Fld.other W323 (fo W322 F_c9_elementData) (Or.inr (slot_ne (Or.inl (w44 hw)) (Or.inl (w59 hw)) (by decide) (t := (.array (.object "java/lang/Object"))) (t' := .int) (by decide) (by decide)))), (Fld.same W323 F_c9_s), (xw W323 (xw W322 E_e0_)), (xw W323 (xw W322 E_c10)), (vo V322 W323), O_c10, (xw W323 (xw W322 E_e1_)), g_c1, lt_c1_c2, lt_c2_c3, lt_c3_c4, lt_c4_c5, lt_c5_c6, lt_c6_c7, lt_c7_c8, lt_c8_c9, lt_c9_c10, od_s_WIN, od_s_LOSS, od_s_DRAW, od_s_SW, od_s_EM, od_e0_, od_e1_⟩) (by decide) (by decide)
def St15 (Z : State) (h : Heap) (n0 : Nat) (s_WIN : Nat) (s_LOSS : Nat) (s_DRAW : Nat) (s_SW : Nat) (s_EM : Nat) (e0_ : Nat) (e1_ : Nat) (c1 : Nat) (c2 : Nat) (c3 : Nat) (c4 : Nat) (c5 : Nat) (c6 : Nat) (c7 : Nat) (c8 : Nat) (c9 : Nat) (c10 : Nat) (k901 : ClassId) (k902 : ClassId) (kc1 : ClassId) (kc2 : ClassId) (kc3 : ClassId) (kc4 : ClassId) (kc5 : ClassId) (kc6 : ClassId) (kc7 : ClassId) : Prop :=
  Sta Z h cR "WIN" "Lcom/example/gamesmith/gamesmith/game/Result;" (.ref s_WIN) ∧
  Sta Z h cR "LOSS" "Lcom/example/gamesmith/gamesmith/game/Result;" (.ref s_LOSS) ∧
  Sta Z h cR "DRAW" "Lcom/example/gamesmith/gamesmith/game/Result;" (.ref s_DRAW) ∧
  Sta Z h "com/example/gamesmith/gamesmith/arena/Tally$1" "$SwitchMap$com$example$gamesmith$gamesmith$game$Result" "[I" (.ref s_SW) ∧
  Sta Z h cA "DEFAULTCAPACITY_EMPTY_ELEMENTDATA" "[Ljava/lang/Object;" (.ref s_EM) ∧
  Exa Z h s_WIN cR ∧
  Fld Z h s_WIN "java/lang/Enum" "ordinal" "I" (.int 0) ∧
  Exa Z h s_LOSS cR ∧
  Fld Z h s_LOSS "java/lang/Enum" "ordinal" "I" (.int 1) ∧
  Exa Z h s_DRAW cR ∧
  Fld Z h s_DRAW "java/lang/Enum" "ordinal" "I" (.int 2) ∧
  Arv Z h s_SW k901 .int 3 [(.int 1), (.int 3), (.int 2)] (.int 0) ∧
  Arv Z h s_EM k902 (.object "java/lang/Object") 0 [] .null ∧
  Exa Z h c1 cT ∧
  Fld Z h c1 cT "wins" "[I" (.ref c2) ∧
  Fld Z h c1 cT "draws" "[I" (.ref c3) ∧
  Fld Z h c1 cT "losses" "[I" (.ref c4) ∧
  Fld Z h c1 cT "matches" "I" (.int 0) ∧
  Fld Z h c1 cT "drawnMatches" "I" (.int 0) ∧
  Arv Z h c2 kc1 .int 2 [(.int 0), (.int 0)] (.int 0) ∧
  Arv Z h c3 kc2 .int 2 [(.int 0), (.int 0)] (.int 0) ∧
  Arv Z h c4 kc3 .int 2 [(.int 0), (.int 0)] (.int 0) ∧
  Exa Z h c5 cT ∧
  Fld Z h c5 cT "wins" "[I" (.ref c6) ∧
  Fld Z h c5 cT "draws" "[I" (.ref c7) ∧
  Fld Z h c5 cT "losses" "[I" (.ref c8) ∧
  Fld Z h c5 cT "matches" "I" (.int 0) ∧
  Fld Z h c5 cT "drawnMatches" "I" (.int 0) ∧
  Arv Z h c6 kc4 .int 2 [(.int 0), (.int 0)] (.int 0) ∧
  Arv Z h c7 kc5 .int 2 [(.int 0), (.int 0)] (.int 0) ∧
  Arv Z h c8 kc6 .int 2 [(.int 0), (.int 0)] (.int 0) ∧
  Exa Z h c9 cA ∧
  Fld Z h c9 "java/util/AbstractList" "modCount" "I" (.int 1) ∧
  Fld Z h c9 cA "elementData" "[Ljava/lang/Object;" (.ref c10) ∧
  Fld Z h c9 cA "size" "I" (.int 1) ∧
  Exa Z h e0_ cR ∧
  Exa Z h c10 "[Ljava/lang/Object;" ∧
  Arv Z h c10 kc7 (.object "java/lang/Object") 10 [(.ref e0_), .null, .null, .null, .null, .null, .null, .null, .null, .null] .null ∧
  Ovr Z kc7 "java/lang/Object" ∧
  Exa Z h e1_ cR ∧
  n0 ≤ c1 ∧
  c1 < c2 ∧
  c2 < c3 ∧
  c3 < c4 ∧
  c4 < c5 ∧
  c5 < c6 ∧
  c6 < c7 ∧
  c7 < c8 ∧
  c8 < c9 ∧
  c9 < c10 ∧
  s_WIN < n0 ∧
  s_LOSS < n0 ∧
  s_DRAW < n0 ∧
  s_SW < n0 ∧
  s_EM < n0 ∧
  e0_ < n0 ∧
  e1_ < n0
def Qm326 (Z : State) (n0 : Nat) (s_WIN : Nat) (s_LOSS : Nat) (s_DRAW : Nat) (s_SW : Nat) (s_EM : Nat) (e0_ : Nat) (e1_ : Nat) (c1 : Nat) (c2 : Nat) (c3 : Nat) (c4 : Nat) (c5 : Nat) (c6 : Nat) (c7 : Nat) (c8 : Nat) (c9 : Nat) (c10 : Nat) (k901 : ClassId) (k902 : ClassId) (kc1 : ClassId) (kc2 : ClassId) (kc3 : ClassId) (kc4 : ClassId) (kc5 : ClassId) (kc6 : ClassId) (kc7 : ClassId) (v : Option Value) (h : Heap) (L : List Loc) : Prop := v = some (.int 1) ∧ Fr n0 L ∧ St14 Z h n0 s_WIN s_LOSS s_DRAW s_SW s_EM e0_ e1_ c1 c2 c3 c4 c5 c6 c7 c8 c9 c10 k901 k902 kc1 kc2 kc3 kc4 kc5 kc6 kc7
theorem m326 (l : Launch) (Z : State) (a0 : Array Value) (hw : HW a0 Z) (ws : List Jvm.Cond) (h0 : Heap) (n0 : Nat) (s_WIN : Nat) (s_LOSS : Nat) (s_DRAW : Nat) (s_SW : Nat) (s_EM : Nat) (e0_ : Nat) (e1_ : Nat) (c1 : Nat) (c2 : Nat) (c3 : Nat) (c4 : Nat) (c5 : Nat) (c6 : Nat) (c7 : Nat) (c8 : Nat) (c9 : Nat) (c10 : Nat) (k901 : ClassId) (k902 : ClassId) (kc1 : ClassId) (kc2 : ClassId) (kc3 : ClassId) (kc4 : ClassId) (kc5 : ClassId) (kc6 : ClassId) (kc7 : ClassId) (P : St15 Z h0 n0 s_WIN s_LOSS s_DRAW s_SW s_EM e0_ e1_ c1 c2 c3 c4 c5 c6 c7 c8 c9 c10 k901 k902 kc1 kc2 kc3 kc4 kc5 kc6 kc7) :
    MC l Z y7 jdk_38_method_25_code 2 (some .boolean) ws rm_1_0_0_15 #[(.ref c9), (.ref e1_)] h0 (Qm326 Z n0 s_WIN s_LOSS s_DRAW s_SW s_EM e0_ e1_ c1 c2 c3 c4 c5 c6 c7 c8 c9 c10 k901 k902 kc1 kc2 kc3 kc4 kc5 kc6 kc7) := by
  obtain ⟨S_WIN, S_LOSS, S_DRAW, S__SwitchMap_com_example_g, S_DEFAULTCAPACITY_EMPTY_EL, E_s_WIN, F_s_WIN_ordinal, E_s_LOSS, F_s_LOSS_ordinal, E_s_DRAW, F_s_DRAW_ordinal, V_s_SW, V_s_EM, E_c1, F_c1_wins, F_c1_draws, F_c1_losses, F_c1_matches, F_c1_drawnMatches, V_c2, V_c3, V_c4, E_c5, F_c5_wins, F_c5_draws, F_c5_losses, F_c5_matches, F_c5_drawnMatches, V_c6, V_c7, V_c8, E_c9, F_c9_modCount, F_c9_elementData, F_c9_s, E_e0_, E_c10, V_c10, O_c10, E_e1_, g_c1, lt_c1_c2, lt_c2_c3, lt_c3_c4, lt_c4_c5, lt_c5_c6, lt_c6_c7, lt_c7_c8, lt_c8_c9, lt_c9_c10, od_s_WIN, od_s_LOSS, od_s_DRAW, od_s_SW, od_s_EM, od_e0_, od_e1_⟩ := id P
  refine own_met (plainFor_of_name pn7) fun p e s m below meth c s₁ X0 hx hZ Y hml hO hnm hlk hret e0 => f_cast (f' := mkF m 0 #[(rv c9), (rv e1_)] []) (by first | (simp [entryFrame, mkF, argsToLocals, Value.category]; done) | rfl) ?_
  have N0 := Fr.nil n0
  refine aN X0 hx (hb Y d7_0) rfl rfl <| f_dup X0 hx (hb Y d7_1) rfl <| gF X0 hx hZ hO (w56 hw) (Via.of (w57 hw)) e0 F_c9_modCount (hb Y d7_2) fun T315 X315 e315 => ?_
  refine iK X315 hx (z := 1) (hb Y d7_5) <| iA X315 hx (z := 2) (hb Y d7_6) <| f_putF X315 hx hZ hO (w56 hw) (Via.of (w57 hw)) e315 F_c9_modCount E_c9 (Or.inl (w41 hw)) (w22 hw) (ty := .int) (by decide) rfl rfl (hb Y d7_7) fun T316 h316 X316 e316 W316 => ?_
  have N316x := Fr.snoc X316 N0 (by omega : n0 ≤ c9)
  refine aN X316 hx (hb Y d7_10) rfl rfl <| aN X316 hx (hb Y d7_11) rfl rfl <| aN X316 hx (hb Y d7_12) rfl rfl ?_
  replace F_c9_elementData := (Fld.other W316 F_c9_elementData (Or.inr (slot_ne (Or.inl (w44 hw)) (Or.inl (w41 hw)) (by decide) (t := (.array (.object "java/lang/Object"))) (t' := .int) (by decide) (by decide))))
  refine gF X316 hx hZ hO (w43 hw) Via.refl e316 F_c9_elementData (hb Y d7_13) fun T317 X317 e317 => ?_
  refine aN X317 hx (hb Y d7_16) rfl rfl ?_
  replace F_c9_s := (Fld.other W316 F_c9_s (Or.inr (slot_ne (Or.inl (w59 hw)) (Or.inl (w41 hw)) (by decide) (t := .int) (t' := .int) (by decide) (by decide))))
  refine gF X317 hx hZ hO (w58 hw) Via.refl e317 F_c9_s (hb Y d7_17) fun T318 X318 e318 => ?_
  have P325 : St13 Z h316 n0 s_WIN s_LOSS s_DRAW s_SW s_EM e0_ e1_ c1 c2 c3 c4 c5 c6 c7 c8 c9 c10 k901 k902 kc1 kc2 kc3 kc4 kc5 kc6 kc7 := ⟨(Sta.wr W316 S_WIN), (Sta.wr W316 S_LOSS), (Sta.wr W316 S_DRAW), (Sta.wr W316 S__SwitchMap_com_example_g), (Sta.wr W316 S_DEFAULTCAPACITY_EMPTY_EL), (xw W316 E_s_WIN), (fo W316 F_s_WIN_ordinal), (xw W316 E_s_LOSS), (fo W316 F_s_LOSS_ordinal), (xw W316 E_s_DRAW), (fo W316 F_s_DRAW_ordinal), (vo V_s_SW W316), (vo V_s_EM W316), (xw W316 E_c1), (fo W316 F_c1_wins), (fo W316 F_c1_draws), (fo W316 F_c1_losses), (fo W316 F_c1_matches), (fo W316 F_c1_drawnMatches), (vo V_c2 W316), (vo V_c3 W316), (vo V_c4 W316), (xw W316 E_c5), (fo W316 F_c5_wins), (fo W316 F_c5_draws), (fo W316 F_c5_losses), (fo W316 F_c5_matches), (fo W316 F_c5_drawnMatches), (vo V_c6 W316), (vo V_c7 W316), (vo V_c8 W316), (xw W316 E_c9), (Fld.same W316 F_c9_modCount), F_c9_elementData, F_c9_s, (xw W316 E_e0_), (xw W316 E_c10), (vo V_c10 W316), O_c10, (xw W316 E_e1_), g_c1, lt_c1_c2, lt_c2_c3, lt_c3_c4, lt_c4_c5, lt_c5_c6, lt_c6_c7, lt_c7_c8, lt_c8_c9, lt_c9_c10, od_s_WIN, od_s_LOSS, od_s_DRAW, od_s_SW, od_s_EM, od_e0_, od_e1_⟩
  replace E_c9 := (xw W316 E_c9)
  refine pV X318 hx hZ hO (by rw [hml]; rfl) (w60 hw) (w61 hw) (w62 hw) (w22 hw) (w23 hw) (w64 hw) e318 E_c9 (argsL := [(.ref e1_), (.ref c10), (.int 1)]) (rest := []) (m324 l Z a0 hw [] h316 n0 s_WIN s_LOSS s_DRAW s_SW s_EM e0_ e1_ c1 c2 c3 c4 c5 c6 c7 c8 c9 c10 k901 k902 kc1 kc2 kc3 kc4 kc5 kc6 kc7 P325) (lenOf pd7 rfl) (hb Y d7_20) fun T319 L319 v319 X319 hQ319 => ?_
  obtain ⟨rfl, N319q, P319⟩ := hQ319
  obtain ⟨S_WIN, S_LOSS, S_DRAW, S__SwitchMap_com_example_g, S_DEFAULTCAPACITY_EMPTY_EL, E_s_WIN, F_s_WIN_ordinal, E_s_LOSS, F_s_LOSS_ordinal, E_s_DRAW, F_s_DRAW_ordinal, V_s_SW, V_s_EM, E_c1, F_c1_wins, F_c1_draws, F_c1_losses, F_c1_matches, F_c1_drawnMatches, V_c2, V_c3, V_c4, E_c5, F_c5_wins, F_c5_draws, F_c5_losses, F_c5_matches, F_c5_drawnMatches, V_c6, V_c7, V_c8, E_c9, F_c9_modCount, F_c9_elementData, F_c9_s, E_e0_, E_c10, V_c10, O_c10, E_e1_, g_c1, lt_c1_c2, lt_c2_c3, lt_c3_c4, lt_c4_c5, lt_c5_c6, lt_c6_c7, lt_c7_c8, lt_c8_c9, lt_c9_c10, od_s_WIN, od_s_LOSS, od_s_DRAW, od_s_SW, od_s_EM, od_e0_, od_e1_⟩ := id P319
  have N319 := Fr.app N316x N319q
  refine iK X319 hx (z := 1) (hb Y d7_23) ?_
  exact f_ret X319 hx hlk (i := .ireturn) hret rfl (Or.inl ⟨rfl, Or.inr (Or.inl rfl), _, rfl⟩) (hb Y d7_24) (QQ := (Qm326 Z n0 s_WIN s_LOSS s_DRAW s_SW s_EM e0_ e1_ c1 c2 c3 c4 c5 c6 c7 c8 c9 c10 k901 k902 kc1 kc2 kc3 kc4 kc5 kc6 kc7)) ⟨rfl, N319, S_WIN, S_LOSS, S_DRAW, S__SwitchMap_com_example_g, S_DEFAULTCAPACITY_EMPTY_EL, E_s_WIN, F_s_WIN_ordinal, E_s_LOSS, F_s_LOSS_ordinal, E_s_DRAW, F_s_DRAW_ordinal, V_s_SW, V_s_EM, E_c1, F_c1_wins, F_c1_draws, F_c1_losses, F_c1_matches, F_c1_drawnMatches, V_c2, V_c3, V_c4, E_c5, F_c5_wins, F_c5_draws, F_c5_losses, F_c5_matches, F_c5_drawnMatches, V_c6, V_c7, V_c8, E_c9, F_c9_modCount, F_c9_elementData, F_c9_s, E_e0_, E_c10, V_c10, O_c10, E_e1_, g_c1, lt_c1_c2, lt_c2_c3, lt_c3_c4, lt_c4_c5, lt_c5_c6, lt_c6_c7, lt_c7_c8, lt_c8_c9, lt_c9_c10, od_s_WIN, od_s_LOSS, od_s_DRAW, od_s_SW, od_s_EM, od_e0_, od_e1_⟩ (by decide) (by decide)
def St16 (Z : State) (h : Heap) (n0 : Nat) (s_WIN : Nat) (s_LOSS : Nat) (s_DRAW : Nat) (s_SW : Nat) (s_EM : Nat) (e0_ : Nat) (e1_ : Nat) (c1 : Nat) (c2 : Nat) (c3 : Nat) (c4 : Nat) (c5 : Nat) (c6 : Nat) (c7 : Nat) (c8 : Nat) (c9 : Nat) (c10 : Nat) (c11 : Nat) (k901 : ClassId) (k902 : ClassId) (kc1 : ClassId) (kc2 : ClassId) (kc3 : ClassId) (kc4 : ClassId) (kc5 : ClassId) (kc6 : ClassId) (kc7 : ClassId) : Prop :=
  Sta Z h cR "WIN" "Lcom/example/gamesmith/gamesmith/game/Result;" (.ref s_WIN) ∧
  Sta Z h cR "LOSS" "Lcom/example/gamesmith/gamesmith/game/Result;" (.ref s_LOSS) ∧
  Sta Z h cR "DRAW" "Lcom/example/gamesmith/gamesmith/game/Result;" (.ref s_DRAW) ∧
  Sta Z h "com/example/gamesmith/gamesmith/arena/Tally$1" "$SwitchMap$com$example$gamesmith$gamesmith$game$Result" "[I" (.ref s_SW) ∧
  Sta Z h cA "DEFAULTCAPACITY_EMPTY_ELEMENTDATA" "[Ljava/lang/Object;" (.ref s_EM) ∧
  Exa Z h s_WIN cR ∧
  Fld Z h s_WIN "java/lang/Enum" "ordinal" "I" (.int 0) ∧
  Exa Z h s_LOSS cR ∧
  Fld Z h s_LOSS "java/lang/Enum" "ordinal" "I" (.int 1) ∧
  Exa Z h s_DRAW cR ∧
  Fld Z h s_DRAW "java/lang/Enum" "ordinal" "I" (.int 2) ∧
  Arv Z h s_SW k901 .int 3 [(.int 1), (.int 3), (.int 2)] (.int 0) ∧
  Arv Z h s_EM k902 (.object "java/lang/Object") 0 [] .null ∧
  Exa Z h c1 cT ∧
  Fld Z h c1 cT "wins" "[I" (.ref c2) ∧
  Fld Z h c1 cT "draws" "[I" (.ref c3) ∧
  Fld Z h c1 cT "losses" "[I" (.ref c4) ∧
  Fld Z h c1 cT "matches" "I" (.int 0) ∧
  Fld Z h c1 cT "drawnMatches" "I" (.int 0) ∧
  Arv Z h c2 kc1 .int 2 [(.int 0), (.int 0)] (.int 0) ∧
  Arv Z h c3 kc2 .int 2 [(.int 0), (.int 0)] (.int 0) ∧
  Arv Z h c4 kc3 .int 2 [(.int 0), (.int 0)] (.int 0) ∧
  Exa Z h c5 cT ∧
  Fld Z h c5 cT "wins" "[I" (.ref c6) ∧
  Fld Z h c5 cT "draws" "[I" (.ref c7) ∧
  Fld Z h c5 cT "losses" "[I" (.ref c8) ∧
  Fld Z h c5 cT "matches" "I" (.int 0) ∧
  Fld Z h c5 cT "drawnMatches" "I" (.int 0) ∧
  Arv Z h c6 kc4 .int 2 [(.int 0), (.int 0)] (.int 0) ∧
  Arv Z h c7 kc5 .int 2 [(.int 0), (.int 0)] (.int 0) ∧
  Arv Z h c8 kc6 .int 2 [(.int 0), (.int 0)] (.int 0) ∧
  Exa Z h c9 cA ∧
  Fld Z h c9 "java/util/AbstractList" "modCount" "I" (.int 2) ∧
  Fld Z h c9 cA "elementData" "[Ljava/lang/Object;" (.ref c10) ∧
  Fld Z h c9 cA "size" "I" (.int 2) ∧
  Exa Z h e0_ cR ∧
  Exa Z h c10 "[Ljava/lang/Object;" ∧
  Arv Z h c10 kc7 (.object "java/lang/Object") 10 [(.ref e0_), (.ref e1_), .null, .null, .null, .null, .null, .null, .null, .null] .null ∧
  Ovr Z kc7 "java/lang/Object" ∧
  Exa Z h e1_ cR ∧
  Exa Z h c11 cA ∧
  Fld Z h c11 "java/util/AbstractList" "modCount" "I" (.int 0) ∧
  Fld Z h c11 cA "elementData" "[Ljava/lang/Object;" .null ∧
  Fld Z h c11 cA "size" "I" (.int 0) ∧
  n0 ≤ c1 ∧
  c1 < c2 ∧
  c2 < c3 ∧
  c3 < c4 ∧
  c4 < c5 ∧
  c5 < c6 ∧
  c6 < c7 ∧
  c7 < c8 ∧
  c8 < c9 ∧
  c9 < c10 ∧
  c10 < c11 ∧
  s_WIN < n0 ∧
  s_LOSS < n0 ∧
  s_DRAW < n0 ∧
  s_SW < n0 ∧
  s_EM < n0 ∧
  e0_ < n0 ∧
  e1_ < n0
def Qm348 (Z : State) (n0 : Nat) (s_WIN : Nat) (s_LOSS : Nat) (s_DRAW : Nat) (s_SW : Nat) (s_EM : Nat) (e0_ : Nat) (e1_ : Nat) (c1 : Nat) (c2 : Nat) (c3 : Nat) (c4 : Nat) (c5 : Nat) (c6 : Nat) (c7 : Nat) (c8 : Nat) (c9 : Nat) (c10 : Nat) (c11 : Nat) (k901 : ClassId) (k902 : ClassId) (kc1 : ClassId) (kc2 : ClassId) (kc3 : ClassId) (kc4 : ClassId) (kc5 : ClassId) (kc6 : ClassId) (kc7 : ClassId) (v : Option Value) (h : Heap) (L : List Loc) : Prop := v = none ∧ Fr n0 L ∧ St16 Z h n0 s_WIN s_LOSS s_DRAW s_SW s_EM e0_ e1_ c1 c2 c3 c4 c5 c6 c7 c8 c9 c10 c11 k901 k902 kc1 kc2 kc3 kc4 kc5 kc6 kc7
theorem m348 (l : Launch) (Z : State) (a0 : Array Value) (hw : HW a0 Z) (ws : List Jvm.Cond) (h0 : Heap) (n0 : Nat) (s_WIN : Nat) (s_LOSS : Nat) (s_DRAW : Nat) (s_SW : Nat) (s_EM : Nat) (e0_ : Nat) (e1_ : Nat) (c1 : Nat) (c2 : Nat) (c3 : Nat) (c4 : Nat) (c5 : Nat) (c6 : Nat) (c7 : Nat) (c8 : Nat) (c9 : Nat) (c10 : Nat) (c11 : Nat) (k901 : ClassId) (k902 : ClassId) (kc1 : ClassId) (kc2 : ClassId) (kc3 : ClassId) (kc4 : ClassId) (kc5 : ClassId) (kc6 : ClassId) (kc7 : ClassId) (P : St16 Z h0 n0 s_WIN s_LOSS s_DRAW s_SW s_EM e0_ e1_ c1 c2 c3 c4 c5 c6 c7 c8 c9 c10 c11 k901 k902 kc1 kc2 kc3 kc4 kc5 kc6 kc7) :
    MC l Z y4 jdk_39_method_1_code 1 none ws rm_2_0_0_24 #[(.ref c11)] h0 (Qm348 Z n0 s_WIN s_LOSS s_DRAW s_SW s_EM e0_ e1_ c1 c2 c3 c4 c5 c6 c7 c8 c9 c10 c11 k901 k902 kc1 kc2 kc3 kc4 kc5 kc6 kc7) := by
  obtain ⟨S_WIN, S_LOSS, S_DRAW, S__SwitchMap_com_example_g, S_DEFAULTCAPACITY_EMPTY_EL, E_s_WIN, F_s_WIN_ordinal, E_s_LOSS, F_s_LOSS_ordinal, E_s_DRAW, F_s_DRAW_ordinal, V_s_SW, V_s_EM, E_c1, F_c1_wins, F_c1_draws, F_c1_losses, F_c1_matches, F_c1_drawnMatches, V_c2, V_c3, V_c4, E_c5, F_c5_wins, F_c5_draws, F_c5_losses, F_c5_matches, F_c5_drawnMatches, V_c6, V_c7, V_c8, E_c9, F_c9_modCount, F_c9_elementData, F_c9_s, E_e0_, E_c10, V_c10, O_c10, E_e1_, E_c11, F_c11_modCount, F_c11_elementData, F_c11_s, g_c1, lt_c1_c2, lt_c2_c3, lt_c3_c4, lt_c4_c5, lt_c5_c6, lt_c6_c7, lt_c7_c8, lt_c8_c9, lt_c9_c10, lt_c10_c11, od_s_WIN, od_s_LOSS, od_s_DRAW, od_s_SW, od_s_EM, od_e0_, od_e1_⟩ := id P
  refine own_met (plainFor_of_name pn4) fun p e s m below meth c s₁ X0 hx hZ Y hml hO hnm hlk hret e0 => f_cast (f' := mkF m 0 #[(rv c11)] []) (by first | (simp [entryFrame, mkF, argsToLocals, Value.category]; done) | rfl) ?_
  have N0 := Fr.nil n0
  refine aN X0 hx (hb Y d4_0) rfl rfl <| f_spec X0 hx hZ hO (by rw [hml]; rfl) rfl (w33 hw) (w34 hw) (w37 hw) (w38 hw) e0 (a := c11) (argsL := []) (rest := []) (q82 l Z a0 hw [] h0 n0 c11) (lenOf pd2 rfl) (hb Y d4_1) fun T345 L345 v345 X345 hQ345 => ?_
  obtain ⟨rfl, N345q, e345⟩ := hQ345
  have N345 := Fr.app N0 N345q
  refine aN X345 hx (hb Y d4_4) rfl rfl <| iK X345 hx (z := 0) (hb Y d4_5) <| f_putF X345 hx hZ hO (w40 hw) Via.refl e345 F_c11_modCount E_c11 (Or.inl (w41 hw)) (w22 hw) (ty := .int) (by decide) rfl rfl (hb Y d4_6) fun T347 h347 X347 e347 W347 => ?_
  have N347x := Fr.snoc X347 N345 (by omega : n0 ≤ c11)
  exact f_ret0 X347 hx hlk hret (hb Y d4_9) (QQ := (Qm348 Z n0 s_WIN s_LOSS s_DRAW s_SW s_EM e0_ e1_ c1 c2 c3 c4 c5 c6 c7 c8 c9 c10 c11 k901 k902 kc1 kc2 kc3 kc4 kc5 kc6 kc7)) (by rw [e347]; exact ⟨rfl, N347x, (Sta.wr W347 S_WIN), (Sta.wr W347 S_LOSS), (Sta.wr W347 S_DRAW), (Sta.wr W347 S__SwitchMap_com_example_g), (Sta.wr W347 S_DEFAULTCAPACITY_EMPTY_EL), (xw W347 E_s_WIN), (fo W347 F_s_WIN_ordinal), (xw W347 E_s_LOSS), (fo W347 F_s_LOSS_ordinal), (xw W347 E_s_DRAW), (fo W347 F_s_DRAW_ordinal), (vo V_s_SW W347), (vo V_s_EM W347), (xw W347 E_c1), (fo W347 F_c1_wins), (fo W347 F_c1_draws), (fo W347 F_c1_losses), (fo W347 F_c1_matches), (fo W347 F_c1_drawnMatches), (vo V_c2 W347), (vo V_c3 W347), (vo V_c4 W347), (xw W347 E_c5), (fo W347 F_c5_wins), (fo W347 F_c5_draws), (fo W347 F_c5_losses), (fo W347 F_c5_matches), (fo W347 F_c5_drawnMatches), (vo V_c6 W347), (vo V_c7 W347), (vo V_c8 W347), (xw W347 E_c9), (fo W347 F_c9_modCount), (fo W347 F_c9_elementData), (fo W347 F_c9_s), (xw W347 E_e0_), (xw W347 E_c10), (vo V_c10 W347), O_c10, (xw W347 E_e1_), (xw W347 E_c11), (Fld.same W347 F_c11_modCount), (Fld.other W347 F_c11_elementData (Or.inr (slot_ne (Or.inl (w44 hw)) (Or.inl (w41 hw)) (by decide) (t := (.array (.object "java/lang/Object"))) (t' := .int) (by decide) (by decide)))), (Fld.other W347 F_c11_s (Or.inr (slot_ne (Or.inl (w59 hw)) (Or.inl (w41 hw)) (by decide) (t := .int) (t' := .int) (by decide) (by decide)))), g_c1, lt_c1_c2, lt_c2_c3, lt_c3_c4, lt_c4_c5, lt_c5_c6, lt_c6_c7, lt_c7_c8, lt_c8_c9, lt_c9_c10, lt_c10_c11, od_s_WIN, od_s_LOSS, od_s_DRAW, od_s_SW, od_s_EM, od_e0_, od_e1_⟩) (by decide) (by decide)
def St17 (Z : State) (h : Heap) (n0 : Nat) (s_WIN : Nat) (s_LOSS : Nat) (s_DRAW : Nat) (s_SW : Nat) (s_EM : Nat) (e0_ : Nat) (e1_ : Nat) (c1 : Nat) (c2 : Nat) (c3 : Nat) (c4 : Nat) (c5 : Nat) (c6 : Nat) (c7 : Nat) (c8 : Nat) (c9 : Nat) (c10 : Nat) (c11 : Nat) (k901 : ClassId) (k902 : ClassId) (kc1 : ClassId) (kc2 : ClassId) (kc3 : ClassId) (kc4 : ClassId) (kc5 : ClassId) (kc6 : ClassId) (kc7 : ClassId) : Prop :=
  Sta Z h cR "WIN" "Lcom/example/gamesmith/gamesmith/game/Result;" (.ref s_WIN) ∧
  Sta Z h cR "LOSS" "Lcom/example/gamesmith/gamesmith/game/Result;" (.ref s_LOSS) ∧
  Sta Z h cR "DRAW" "Lcom/example/gamesmith/gamesmith/game/Result;" (.ref s_DRAW) ∧
  Sta Z h "com/example/gamesmith/gamesmith/arena/Tally$1" "$SwitchMap$com$example$gamesmith$gamesmith$game$Result" "[I" (.ref s_SW) ∧
  Sta Z h cA "DEFAULTCAPACITY_EMPTY_ELEMENTDATA" "[Ljava/lang/Object;" (.ref s_EM) ∧
  Exa Z h s_WIN cR ∧
  Fld Z h s_WIN "java/lang/Enum" "ordinal" "I" (.int 0) ∧
  Exa Z h s_LOSS cR ∧
  Fld Z h s_LOSS "java/lang/Enum" "ordinal" "I" (.int 1) ∧
  Exa Z h s_DRAW cR ∧
  Fld Z h s_DRAW "java/lang/Enum" "ordinal" "I" (.int 2) ∧
  Arv Z h s_SW k901 .int 3 [(.int 1), (.int 3), (.int 2)] (.int 0) ∧
  Arv Z h s_EM k902 (.object "java/lang/Object") 0 [] .null ∧
  Exa Z h c1 cT ∧
  Fld Z h c1 cT "wins" "[I" (.ref c2) ∧
  Fld Z h c1 cT "draws" "[I" (.ref c3) ∧
  Fld Z h c1 cT "losses" "[I" (.ref c4) ∧
  Fld Z h c1 cT "matches" "I" (.int 0) ∧
  Fld Z h c1 cT "drawnMatches" "I" (.int 0) ∧
  Arv Z h c2 kc1 .int 2 [(.int 0), (.int 0)] (.int 0) ∧
  Arv Z h c3 kc2 .int 2 [(.int 0), (.int 0)] (.int 0) ∧
  Arv Z h c4 kc3 .int 2 [(.int 0), (.int 0)] (.int 0) ∧
  Exa Z h c5 cT ∧
  Fld Z h c5 cT "wins" "[I" (.ref c6) ∧
  Fld Z h c5 cT "draws" "[I" (.ref c7) ∧
  Fld Z h c5 cT "losses" "[I" (.ref c8) ∧
  Fld Z h c5 cT "matches" "I" (.int 0) ∧
  Fld Z h c5 cT "drawnMatches" "I" (.int 0) ∧
  Arv Z h c6 kc4 .int 2 [(.int 0), (.int 0)] (.int 0) ∧
  Arv Z h c7 kc5 .int 2 [(.int 0), (.int 0)] (.int 0) ∧
  Arv Z h c8 kc6 .int 2 [(.int 0), (.int 0)] (.int 0) ∧
  Exa Z h c9 cA ∧
  Fld Z h c9 "java/util/AbstractList" "modCount" "I" (.int 2) ∧
  Fld Z h c9 cA "elementData" "[Ljava/lang/Object;" (.ref c10) ∧
  Fld Z h c9 cA "size" "I" (.int 2) ∧
  Exa Z h e0_ cR ∧
  Exa Z h c10 "[Ljava/lang/Object;" ∧
  Arv Z h c10 kc7 (.object "java/lang/Object") 10 [(.ref e0_), (.ref e1_), .null, .null, .null, .null, .null, .null, .null, .null] .null ∧
  Ovr Z kc7 "java/lang/Object" ∧
  Exa Z h e1_ cR ∧
  Exa Z h c11 cA ∧
  Fld Z h c11 "java/util/AbstractList" "modCount" "I" (.int 0) ∧
  Fld Z h c11 cA "elementData" "[Ljava/lang/Object;" (.ref s_EM) ∧
  Fld Z h c11 cA "size" "I" (.int 0) ∧
  n0 ≤ c1 ∧
  c1 < c2 ∧
  c2 < c3 ∧
  c3 < c4 ∧
  c4 < c5 ∧
  c5 < c6 ∧
  c6 < c7 ∧
  c7 < c8 ∧
  c8 < c9 ∧
  c9 < c10 ∧
  c10 < c11 ∧
  s_WIN < n0 ∧
  s_LOSS < n0 ∧
  s_DRAW < n0 ∧
  s_SW < n0 ∧
  s_EM < n0 ∧
  e0_ < n0 ∧
  e1_ < n0
def Qm352 (Z : State) (n0 : Nat) (s_WIN : Nat) (s_LOSS : Nat) (s_DRAW : Nat) (s_SW : Nat) (s_EM : Nat) (e0_ : Nat) (e1_ : Nat) (c1 : Nat) (c2 : Nat) (c3 : Nat) (c4 : Nat) (c5 : Nat) (c6 : Nat) (c7 : Nat) (c8 : Nat) (c9 : Nat) (c10 : Nat) (c11 : Nat) (k901 : ClassId) (k902 : ClassId) (kc1 : ClassId) (kc2 : ClassId) (kc3 : ClassId) (kc4 : ClassId) (kc5 : ClassId) (kc6 : ClassId) (kc7 : ClassId) (v : Option Value) (h : Heap) (L : List Loc) : Prop := v = none ∧ Fr n0 L ∧ St17 Z h n0 s_WIN s_LOSS s_DRAW s_SW s_EM e0_ e1_ c1 c2 c3 c4 c5 c6 c7 c8 c9 c10 c11 k901 k902 kc1 kc2 kc3 kc4 kc5 kc6 kc7
theorem m352 (l : Launch) (Z : State) (a0 : Array Value) (hw : HW a0 Z) (ws : List Jvm.Cond) (h0 : Heap) (n0 : Nat) (s_WIN : Nat) (s_LOSS : Nat) (s_DRAW : Nat) (s_SW : Nat) (s_EM : Nat) (e0_ : Nat) (e1_ : Nat) (c1 : Nat) (c2 : Nat) (c3 : Nat) (c4 : Nat) (c5 : Nat) (c6 : Nat) (c7 : Nat) (c8 : Nat) (c9 : Nat) (c10 : Nat) (c11 : Nat) (k901 : ClassId) (k902 : ClassId) (kc1 : ClassId) (kc2 : ClassId) (kc3 : ClassId) (kc4 : ClassId) (kc5 : ClassId) (kc6 : ClassId) (kc7 : ClassId) (P : St16 Z h0 n0 s_WIN s_LOSS s_DRAW s_SW s_EM e0_ e1_ c1 c2 c3 c4 c5 c6 c7 c8 c9 c10 c11 k901 k902 kc1 kc2 kc3 kc4 kc5 kc6 kc7) :
    MC l Z y3 jdk_38_method_2_code 1 none ws rm_3_0_0_36 #[(.ref c11)] h0 (Qm352 Z n0 s_WIN s_LOSS s_DRAW s_SW s_EM e0_ e1_ c1 c2 c3 c4 c5 c6 c7 c8 c9 c10 c11 k901 k902 kc1 kc2 kc3 kc4 kc5 kc6 kc7) := by
  obtain ⟨S_WIN, S_LOSS, S_DRAW, S__SwitchMap_com_example_g, S_DEFAULTCAPACITY_EMPTY_EL, E_s_WIN, F_s_WIN_ordinal, E_s_LOSS, F_s_LOSS_ordinal, E_s_DRAW, F_s_DRAW_ordinal, V_s_SW, V_s_EM, E_c1, F_c1_wins, F_c1_draws, F_c1_losses, F_c1_matches, F_c1_drawnMatches, V_c2, V_c3, V_c4, E_c5, F_c5_wins, F_c5_draws, F_c5_losses, F_c5_matches, F_c5_drawnMatches, V_c6, V_c7, V_c8, E_c9, F_c9_modCount, F_c9_elementData, F_c9_s, E_e0_, E_c10, V_c10, O_c10, E_e1_, E_c11, F_c11_modCount, F_c11_elementData, F_c11_s, g_c1, lt_c1_c2, lt_c2_c3, lt_c3_c4, lt_c4_c5, lt_c5_c6, lt_c6_c7, lt_c7_c8, lt_c8_c9, lt_c9_c10, lt_c10_c11, od_s_WIN, od_s_LOSS, od_s_DRAW, od_s_SW, od_s_EM, od_e0_, od_e1_⟩ := id P
  refine own_met (plainFor_of_name pn3) fun p e s m below meth c s₁ X0 hx hZ Y hml hO hnm hlk hret e0 => f_cast (f' := mkF m 0 #[(rv c11)] []) (by first | (simp [entryFrame, mkF, argsToLocals, Value.category]; done) | rfl) ?_
  have N0 := Fr.nil n0
  refine aN X0 hx (hb Y d3_0) rfl rfl ?_
  have P349 : St16 Z h0 n0 s_WIN s_LOSS s_DRAW s_SW s_EM e0_ e1_ c1 c2 c3 c4 c5 c6 c7 c8 c9 c10 c11 k901 k902 kc1 kc2 kc3 kc4 kc5 kc6 kc7 := ⟨S_WIN, S_LOSS, S_DRAW, S__SwitchMap_com_example_g, S_DEFAULTCAPACITY_EMPTY_EL, E_s_WIN, F_s_WIN_ordinal, E_s_LOSS, F_s_LOSS_ordinal, E_s_DRAW, F_s_DRAW_ordinal, V_s_SW, V_s_EM, E_c1, F_c1_wins, F_c1_draws, F_c1_losses, F_c1_matches, F_c1_drawnMatches, V_c2, V_c3, V_c4, E_c5, F_c5_wins, F_c5_draws, F_c5_losses, F_c5_matches, F_c5_drawnMatches, V_c6, V_c7, V_c8, E_c9, F_c9_modCount, F_c9_elementData, F_c9_s, E_e0_, E_c10, V_c10, O_c10, E_e1_, E_c11, F_c11_modCount, F_c11_elementData, F_c11_s, g_c1, lt_c1_c2, lt_c2_c3, lt_c3_c4, lt_c4_c5, lt_c5_c6, lt_c6_c7, lt_c7_c8, lt_c8_c9, lt_c9_c10, lt_c10_c11, od_s_WIN, od_s_LOSS, od_s_DRAW, od_s_SW, od_s_EM, od_e0_, od_e1_⟩
  refine f_spec X0 hx hZ hO (by rw [hml]; rfl) rfl (w27 hw) (w28 hw) (w31 hw) (w32 hw) e0 (a := c11) (argsL := []) (rest := []) (m348 l Z a0 hw [] h0 n0 s_WIN s_LOSS s_DRAW s_SW s_EM e0_ e1_ c1 c2 c3 c4 c5 c6 c7 c8 c9 c10 c11 k901 k902 kc1 kc2 kc3 kc4 kc5 kc6 kc7 P349) (lenOf pd2 rfl) (hb Y d3_1) fun T341 L341 v341 X341 hQ341 => ?_
  obtain ⟨rfl, N341q, P341⟩ := hQ341
  obtain ⟨S_WIN, S_LOSS, S_DRAW, S__SwitchMap_com_example_g, S_DEFAULTCAPACITY_EMPTY_EL, E_s_WIN, F_s_WIN_ordinal, E_s_LOSS, F_s_LOSS_ordinal, E_s_DRAW, F_s_DRAW_ordinal, V_s_SW, V_s_EM, E_c1, F_c1_wins, F_c1_draws, F_c1_losses, F_c1_matches, F_c1_drawnMatches, V_c2, V_c3, V_c4, E_c5, F_c5_wins, F_c5_draws, F_c5_losses, F_c5_matches, F_c5_drawnMatches, V_c6, V_c7, V_c8, E_c9, F_c9_modCount, F_c9_elementData, F_c9_s, E_e0_, E_c10, V_c10, O_c10, E_e1_, E_c11, F_c11_modCount, F_c11_elementData, F_c11_s, g_c1, lt_c1_c2, lt_c2_c3, lt_c3_c4, lt_c4_c5, lt_c5_c6, lt_c6_c7, lt_c7_c8, lt_c8_c9, lt_c9_c10, lt_c10_c11, od_s_WIN, od_s_LOSS, od_s_DRAW, od_s_SW, od_s_EM, od_e0_, od_e1_⟩ := id P341
  have N341 := Fr.app N0 N341q
  refine aN X341 hx (hb Y d3_4) rfl rfl <| f_getS X341 hx hZ hO (w42 hw) rfl S_DEFAULTCAPACITY_EMPTY_EL (hb Y d3_5) fun T350 X350 e350 => ?_
  refine f_putF X350 hx hZ hO (w43 hw) Via.refl e350 F_c11_elementData E_c11 (Or.inl (w44 hw)) (w22 hw) (ty := (.array (.object "java/lang/Object"))) (by decide) rfl rfl (hb Y d3_8) fun T351 h351 X351 e351 W351 => ?_
  have N351x := Fr.snoc X351 N341 (by omega : n0 ≤ c11)
  exact f_ret0 X351 hx hlk hret (hb Y d3_11) (QQ := (Qm352 Z n0 s_WIN s_LOSS s_DRAW s_SW s_EM e0_ e1_ c1 c2 c3 c4 c5 c6 c7 c8 c9 c10 c11 k901 k902 kc1 kc2 kc3 kc4 kc5 kc6 kc7)) (by rw [e351]; exact ⟨rfl, N351x, (Sta.wr W351 S_WIN), (Sta.wr W351 S_LOSS), (Sta.wr W351 S_DRAW), (Sta.wr W351 S__SwitchMap_com_example_g), (Sta.wr W351 S_DEFAULTCAPACITY_EMPTY_EL), (xw W351 E_s_WIN), (fo W351 F_s_WIN_ordinal), (xw W351 E_s_LOSS), (fo W351 F_s_LOSS_ordinal), (xw W351 E_s_DRAW), (fo W351 F_s_DRAW_ordinal), (vo V_s_SW W351), (vo V_s_EM W351), (xw W351 E_c1), (fo W351 F_c1_wins), (fo W351 F_c1_draws), (fo W351 F_c1_losses), (fo W351 F_c1_matches), (fo W351 F_c1_drawnMatches), (vo V_c2 W351), (vo V_c3 W351), (vo V_c4 W351), (xw W351 E_c5), (fo W351 F_c5_wins), (fo W351 F_c5_draws), (fo W351 F_c5_losses), (fo W351 F_c5_matches), (fo W351 F_c5_drawnMatches), (vo V_c6 W351), (vo V_c7 W351), (vo V_c8 W351), (xw W351 E_c9), (fo W351 F_c9_modCount), (fo W351 F_c9_elementData), (fo W351 F_c9_s), (xw W351 E_e0_), (xw W351 E_c10), (vo V_c10 W351), O_c10, (xw W351 E_e1_), (xw W351 E_c11), (Fld.other W351 F_c11_modCount (Or.inr (slot_ne (Or.inl (w41 hw)) (Or.inl (w44 hw)) (by decide) (t := .int) (t' := (.array (.object "java/lang/Object"))) (by decide) (by decide)))), (Fld.same W351 F_c11_elementData), (Fld.other W351 F_c11_s (Or.inr (slot_ne (Or.inl (w59 hw)) (Or.inl (w44 hw)) (by decide) (t := .int) (t' := (.array (.object "java/lang/Object"))) (by decide) (by decide)))), g_c1, lt_c1_c2, lt_c2_c3, lt_c3_c4, lt_c4_c5, lt_c5_c6, lt_c6_c7, lt_c7_c8, lt_c8_c9, lt_c9_c10, lt_c10_c11, od_s_WIN, od_s_LOSS, od_s_DRAW, od_s_SW, od_s_EM, od_e0_, od_e1_⟩) (by decide) (by decide)
def St18 (Z : State) (h : Heap) (n0 : Nat) (s_WIN : Nat) (s_LOSS : Nat) (s_DRAW : Nat) (s_SW : Nat) (s_EM : Nat) (e0_ : Nat) (e1_ : Nat) (e2_ : Nat) (c1 : Nat) (c2 : Nat) (c3 : Nat) (c4 : Nat) (c5 : Nat) (c6 : Nat) (c7 : Nat) (c8 : Nat) (c9 : Nat) (c10 : Nat) (c11 : Nat) (k901 : ClassId) (k902 : ClassId) (kc1 : ClassId) (kc2 : ClassId) (kc3 : ClassId) (kc4 : ClassId) (kc5 : ClassId) (kc6 : ClassId) (kc7 : ClassId) : Prop :=
  Sta Z h cR "WIN" "Lcom/example/gamesmith/gamesmith/game/Result;" (.ref s_WIN) ∧
  Sta Z h cR "LOSS" "Lcom/example/gamesmith/gamesmith/game/Result;" (.ref s_LOSS) ∧
  Sta Z h cR "DRAW" "Lcom/example/gamesmith/gamesmith/game/Result;" (.ref s_DRAW) ∧
  Sta Z h "com/example/gamesmith/gamesmith/arena/Tally$1" "$SwitchMap$com$example$gamesmith$gamesmith$game$Result" "[I" (.ref s_SW) ∧
  Sta Z h cA "DEFAULTCAPACITY_EMPTY_ELEMENTDATA" "[Ljava/lang/Object;" (.ref s_EM) ∧
  Exa Z h s_WIN cR ∧
  Fld Z h s_WIN "java/lang/Enum" "ordinal" "I" (.int 0) ∧
  Exa Z h s_LOSS cR ∧
  Fld Z h s_LOSS "java/lang/Enum" "ordinal" "I" (.int 1) ∧
  Exa Z h s_DRAW cR ∧
  Fld Z h s_DRAW "java/lang/Enum" "ordinal" "I" (.int 2) ∧
  Arv Z h s_SW k901 .int 3 [(.int 1), (.int 3), (.int 2)] (.int 0) ∧
  Arv Z h s_EM k902 (.object "java/lang/Object") 0 [] .null ∧
  Exa Z h c1 cT ∧
  Fld Z h c1 cT "wins" "[I" (.ref c2) ∧
  Fld Z h c1 cT "draws" "[I" (.ref c3) ∧
  Fld Z h c1 cT "losses" "[I" (.ref c4) ∧
  Fld Z h c1 cT "matches" "I" (.int 0) ∧
  Fld Z h c1 cT "drawnMatches" "I" (.int 0) ∧
  Arv Z h c2 kc1 .int 2 [(.int 0), (.int 0)] (.int 0) ∧
  Arv Z h c3 kc2 .int 2 [(.int 0), (.int 0)] (.int 0) ∧
  Arv Z h c4 kc3 .int 2 [(.int 0), (.int 0)] (.int 0) ∧
  Exa Z h c5 cT ∧
  Fld Z h c5 cT "wins" "[I" (.ref c6) ∧
  Fld Z h c5 cT "draws" "[I" (.ref c7) ∧
  Fld Z h c5 cT "losses" "[I" (.ref c8) ∧
  Fld Z h c5 cT "matches" "I" (.int 0) ∧
  Fld Z h c5 cT "drawnMatches" "I" (.int 0) ∧
  Arv Z h c6 kc4 .int 2 [(.int 0), (.int 0)] (.int 0) ∧
  Arv Z h c7 kc5 .int 2 [(.int 0), (.int 0)] (.int 0) ∧
  Arv Z h c8 kc6 .int 2 [(.int 0), (.int 0)] (.int 0) ∧
  Exa Z h c9 cA ∧
  Fld Z h c9 "java/util/AbstractList" "modCount" "I" (.int 2) ∧
  Fld Z h c9 cA "elementData" "[Ljava/lang/Object;" (.ref c10) ∧
  Fld Z h c9 cA "size" "I" (.int 2) ∧
  Exa Z h e0_ cR ∧
  Exa Z h c10 "[Ljava/lang/Object;" ∧
  Arv Z h c10 kc7 (.object "java/lang/Object") 10 [(.ref e0_), (.ref e1_), .null, .null, .null, .null, .null, .null, .null, .null] .null ∧
  Ovr Z kc7 "java/lang/Object" ∧
  Exa Z h e1_ cR ∧
  Exa Z h c11 cA ∧
  Fld Z h c11 "java/util/AbstractList" "modCount" "I" (.int 1) ∧
  Fld Z h c11 cA "elementData" "[Ljava/lang/Object;" (.ref s_EM) ∧
  Fld Z h c11 cA "size" "I" (.int 0) ∧
  Exa Z h e2_ cR ∧
  n0 ≤ c1 ∧
  c1 < c2 ∧
  c2 < c3 ∧
  c3 < c4 ∧
  c4 < c5 ∧
  c5 < c6 ∧
  c6 < c7 ∧
  c7 < c8 ∧
  c8 < c9 ∧
  c9 < c10 ∧
  c10 < c11 ∧
  s_WIN < n0 ∧
  s_LOSS < n0 ∧
  s_DRAW < n0 ∧
  s_SW < n0 ∧
  s_EM < n0 ∧
  e0_ < n0 ∧
  e1_ < n0 ∧
  e2_ < n0
def St19 (Z : State) (h : Heap) (n0 : Nat) (s_WIN : Nat) (s_LOSS : Nat) (s_DRAW : Nat) (s_SW : Nat) (s_EM : Nat) (e0_ : Nat) (e1_ : Nat) (e2_ : Nat) (c1 : Nat) (c2 : Nat) (c3 : Nat) (c4 : Nat) (c5 : Nat) (c6 : Nat) (c7 : Nat) (c8 : Nat) (c9 : Nat) (c10 : Nat) (c11 : Nat) (b530 : Nat) (k901 : ClassId) (k902 : ClassId) (kc1 : ClassId) (kc2 : ClassId) (kc3 : ClassId) (kc4 : ClassId) (kc5 : ClassId) (kc6 : ClassId) (kc7 : ClassId) (kb530 : ClassId) : Prop :=
  Sta Z h cR "WIN" "Lcom/example/gamesmith/gamesmith/game/Result;" (.ref s_WIN) ∧
  Sta Z h cR "LOSS" "Lcom/example/gamesmith/gamesmith/game/Result;" (.ref s_LOSS) ∧
  Sta Z h cR "DRAW" "Lcom/example/gamesmith/gamesmith/game/Result;" (.ref s_DRAW) ∧
  Sta Z h "com/example/gamesmith/gamesmith/arena/Tally$1" "$SwitchMap$com$example$gamesmith$gamesmith$game$Result" "[I" (.ref s_SW) ∧
  Sta Z h cA "DEFAULTCAPACITY_EMPTY_ELEMENTDATA" "[Ljava/lang/Object;" (.ref s_EM) ∧
  Exa Z h s_WIN cR ∧
  Fld Z h s_WIN "java/lang/Enum" "ordinal" "I" (.int 0) ∧
  Exa Z h s_LOSS cR ∧
  Fld Z h s_LOSS "java/lang/Enum" "ordinal" "I" (.int 1) ∧
  Exa Z h s_DRAW cR ∧
  Fld Z h s_DRAW "java/lang/Enum" "ordinal" "I" (.int 2) ∧
  Arv Z h s_SW k901 .int 3 [(.int 1), (.int 3), (.int 2)] (.int 0) ∧
  Arv Z h s_EM k902 (.object "java/lang/Object") 0 [] .null ∧
  Exa Z h c1 cT ∧
  Fld Z h c1 cT "wins" "[I" (.ref c2) ∧
  Fld Z h c1 cT "draws" "[I" (.ref c3) ∧
  Fld Z h c1 cT "losses" "[I" (.ref c4) ∧
  Fld Z h c1 cT "matches" "I" (.int 0) ∧
  Fld Z h c1 cT "drawnMatches" "I" (.int 0) ∧
  Arv Z h c2 kc1 .int 2 [(.int 0), (.int 0)] (.int 0) ∧
  Arv Z h c3 kc2 .int 2 [(.int 0), (.int 0)] (.int 0) ∧
  Arv Z h c4 kc3 .int 2 [(.int 0), (.int 0)] (.int 0) ∧
  Exa Z h c5 cT ∧
  Fld Z h c5 cT "wins" "[I" (.ref c6) ∧
  Fld Z h c5 cT "draws" "[I" (.ref c7) ∧
  Fld Z h c5 cT "losses" "[I" (.ref c8) ∧
  Fld Z h c5 cT "matches" "I" (.int 0) ∧
  Fld Z h c5 cT "drawnMatches" "I" (.int 0) ∧
  Arv Z h c6 kc4 .int 2 [(.int 0), (.int 0)] (.int 0) ∧
  Arv Z h c7 kc5 .int 2 [(.int 0), (.int 0)] (.int 0) ∧
  Arv Z h c8 kc6 .int 2 [(.int 0), (.int 0)] (.int 0) ∧
  Exa Z h c9 cA ∧
  Fld Z h c9 "java/util/AbstractList" "modCount" "I" (.int 2) ∧
  Fld Z h c9 cA "elementData" "[Ljava/lang/Object;" (.ref c10) ∧
  Fld Z h c9 cA "size" "I" (.int 2) ∧
  Exa Z h e0_ cR ∧
  Exa Z h c10 "[Ljava/lang/Object;" ∧
  Arv Z h c10 kc7 (.object "java/lang/Object") 10 [(.ref e0_), (.ref e1_), .null, .null, .null, .null, .null, .null, .null, .null] .null ∧
  Ovr Z kc7 "java/lang/Object" ∧
  Exa Z h e1_ cR ∧
  Exa Z h c11 cA ∧
  Fld Z h c11 "java/util/AbstractList" "modCount" "I" (.int 1) ∧
  Fld Z h c11 cA "elementData" "[Ljava/lang/Object;" (.ref b530) ∧
  Fld Z h c11 cA "size" "I" (.int 0) ∧
  Exa Z h e2_ cR ∧
  Exa Z h b530 "[Ljava/lang/Object;" ∧
  Arv Z h b530 kb530 (.object "java/lang/Object") 10 [.null, .null, .null, .null, .null, .null, .null, .null, .null, .null] .null ∧
  Ovr Z kb530 "java/lang/Object" ∧
  n0 ≤ c1 ∧
  c1 < c2 ∧
  c2 < c3 ∧
  c3 < c4 ∧
  c4 < c5 ∧
  c5 < c6 ∧
  c6 < c7 ∧
  c7 < c8 ∧
  c8 < c9 ∧
  c9 < c10 ∧
  c10 < c11 ∧
  c11 < b530 ∧
  s_WIN < n0 ∧
  s_LOSS < n0 ∧
  s_DRAW < n0 ∧
  s_SW < n0 ∧
  s_EM < n0 ∧
  e0_ < n0 ∧
  e1_ < n0 ∧
  e2_ < n0
def Qm532 (Z : State) (n0 : Nat) (s_WIN : Nat) (s_LOSS : Nat) (s_DRAW : Nat) (s_SW : Nat) (s_EM : Nat) (e0_ : Nat) (e1_ : Nat) (e2_ : Nat) (c1 : Nat) (c2 : Nat) (c3 : Nat) (c4 : Nat) (c5 : Nat) (c6 : Nat) (c7 : Nat) (c8 : Nat) (c9 : Nat) (c10 : Nat) (c11 : Nat) (k901 : ClassId) (k902 : ClassId) (kc1 : ClassId) (kc2 : ClassId) (kc3 : ClassId) (kc4 : ClassId) (kc5 : ClassId) (kc6 : ClassId) (kc7 : ClassId) (v : Option Value) (h : Heap) (L : List Loc) : Prop := ∃ (kb530 : ClassId) (b530 : Nat), v = some (.ref b530) ∧ Fr n0 L ∧ St19 Z h n0 s_WIN s_LOSS s_DRAW s_SW s_EM e0_ e1_ e2_ c1 c2 c3 c4 c5 c6 c7 c8 c9 c10 c11 b530 k901 k902 kc1 kc2 kc3 kc4 kc5 kc6 kc7 kb530
theorem m532 (l : Launch) (Z : State) (a0 : Array Value) (hw : HW a0 Z) (ws : List Jvm.Cond) (h0 : Heap) (n0 : Nat) (s_WIN : Nat) (s_LOSS : Nat) (s_DRAW : Nat) (s_SW : Nat) (s_EM : Nat) (e0_ : Nat) (e1_ : Nat) (e2_ : Nat) (c1 : Nat) (c2 : Nat) (c3 : Nat) (c4 : Nat) (c5 : Nat) (c6 : Nat) (c7 : Nat) (c8 : Nat) (c9 : Nat) (c10 : Nat) (c11 : Nat) (k901 : ClassId) (k902 : ClassId) (kc1 : ClassId) (kc2 : ClassId) (kc3 : ClassId) (kc4 : ClassId) (kc5 : ClassId) (kc6 : ClassId) (kc7 : ClassId) (P : St18 Z h0 n0 s_WIN s_LOSS s_DRAW s_SW s_EM e0_ e1_ e2_ c1 c2 c3 c4 c5 c6 c7 c8 c9 c10 c11 k901 k902 kc1 kc2 kc3 kc4 kc5 kc6 kc7) :
    MC l Z y10 jdk_38_method_6_code 4 (some (.array (.object "java/lang/Object"))) ws rm_1_1_10_14 #[(.ref c11), (.int 1)] h0 (Qm532 Z n0 s_WIN s_LOSS s_DRAW s_SW s_EM e0_ e1_ e2_ c1 c2 c3 c4 c5 c6 c7 c8 c9 c10 c11 k901 k902 kc1 kc2 kc3 kc4 kc5 kc6 kc7) := by
  obtain ⟨S_WIN, S_LOSS, S_DRAW, S__SwitchMap_com_example_g, S_DEFAULTCAPACITY_EMPTY_EL, E_s_WIN, F_s_WIN_ordinal, E_s_LOSS, F_s_LOSS_ordinal, E_s_DRAW, F_s_DRAW_ordinal, V_s_SW, V_s_EM, E_c1, F_c1_wins, F_c1_draws, F_c1_losses, F_c1_matches, F_c1_drawnMatches, V_c2, V_c3, V_c4, E_c5, F_c5_wins, F_c5_draws, F_c5_losses, F_c5_matches, F_c5_drawnMatches, V_c6, V_c7, V_c8, E_c9, F_c9_modCount, F_c9_elementData, F_c9_s, E_e0_, E_c10, V_c10, O_c10, E_e1_, E_c11, F_c11_modCount, F_c11_elementData, F_c11_s, E_e2_, g_c1, lt_c1_c2, lt_c2_c3, lt_c3_c4, lt_c4_c5, lt_c5_c6, lt_c6_c7, lt_c7_c8, lt_c8_c9, lt_c9_c10, lt_c10_c11, od_s_WIN, od_s_LOSS, od_s_DRAW, od_s_SW, od_s_EM, od_e0_, od_e1_, od_e2_⟩ := id P
  refine own_met (plainFor_of_name pn10) fun p e s m below meth c s₁ X0 hx hZ Y hml hO hnm hlk hret e0 => f_cast (f' := mkF m 0 #[(rv c11), (iv 1), .unset, .unset] []) (by first | (simp [entryFrame, mkF, argsToLocals, Value.category]; done) | rfl) ?_
  have N0 := Fr.nil n0
  refine aN X0 hx (hb Y d10_0) rfl rfl <| gF X0 hx hZ hO (w43 hw) Via.refl e0 F_c11_elementData (hb Y d10_1) fun T526 X526 e526 => ?_
  refine f_len X526 hx hZ e526 V_s_EM (hb Y d10_4) <| sN X526 hx (L' := #[(rv c11), (iv 1), (iv 0), .unset]) (hb Y d10_5) rfl <| iN X526 hx (hb Y d10_6) rfl <| fN X526 hx (hb Y d10_7) <| aN X526 hx (hb Y d10_10) rfl rfl <| gF X526 hx hZ hO (w43 hw) Via.refl e526 F_c11_elementData (hb Y d10_11) fun T527 X527 e527 => ?_
  refine f_getS X527 hx hZ hO (w42 hw) e527 S_DEFAULTCAPACITY_EMPTY_EL (hb Y d10_14) fun T528 X528 e528 => ?_
  refine f_acmp X528 hx (pc := 17) 45 true rfl rfl (hb Y d10_17) (decide_eq_true rfl) <| aN X528 hx (hb Y d10_45) rfl rfl <| f_bipush X528 hx (z := 10) (hb Y d10_46) <| iN X528 hx (hb Y d10_48) rfl <| f_stat X528 hx hZ hO (by rw [hml]; rfl) (w75 hw) (w76 hw) (w77 hw) (w78 hw) e528 (argsL := [(.int 10), (.int 1)]) (rest := [(.ref c11)]) (q281 l Z a0 hw [] h0 n0) (lenOf pd4 rfl) (hb Y d10_49) fun T529 L529 v529 X529 hQ529 => ?_
  obtain ⟨rfl, N529q, e529⟩ := hQ529
  have N529 := Fr.app N0 N529q
  refine f_newR X529 hx hZ hO (w79 hw) (w80 hw) e529 (hb Y d10_52) 10 (ad := "[Ljava/lang/Object;") (by decide +kernel) fun T530 h530 kb530 b530 g530 X530 e530 E530 V_b530 E_b530 O_b530 => ?_
  have lt_c11_b530 : c11 < b530 := by have := own_ltE E_c11; omega
  refine f_dupX1 X530 hx (hb Y d10_55) rfl rfl ?_
  replace F_c11_elementData := (fe E530 F_c11_elementData)
  replace E_c11 := (xe E530 E_c11)
  refine f_putF X530 hx hZ hO (w43 hw) Via.refl e530 F_c11_elementData E_c11 (Or.inl (w44 hw)) (w22 hw) (ty := (.array (.object "java/lang/Object"))) (by decide) rfl rfl (hb Y d10_56) fun T531 h531 X531 e531 W531 => ?_
  have N531x := Fr.snoc X531 N529 (by omega : n0 ≤ c11)
  exact f_ret X531 hx hlk (i := .areturn) hret rfl (Or.inr (Or.inr (Or.inr (Or.inr ⟨rfl, rfl, rfl⟩)))) (hb Y d10_59) (QQ := (Qm532 Z n0 s_WIN s_LOSS s_DRAW s_SW s_EM e0_ e1_ e2_ c1 c2 c3 c4 c5 c6 c7 c8 c9 c10 c11 k901 k902 kc1 kc2 kc3 kc4 kc5 kc6 kc7)) (by rw [e531]; exact ⟨kb530, b530, rfl, N531x, (Sta.wr W531 (Sta.ext E530 S_WIN)), (Sta.wr W531 (Sta.ext E530 S_LOSS)), (Sta.wr W531 (Sta.ext E530 S_DRAW)), (Sta.wr W531 (Sta.ext E530 S__SwitchMap_com_example_g)), (Sta.wr W531 (Sta.ext E530 S_DEFAULTCAPACITY_EMPTY_EL)), (xw W531 (xe E530 E_s_WIN)), (fo W531 (fe E530 F_s_WIN_ordinal)), (xw W531 (xe E530 E_s_LOSS)), (fo W531 (fe E530 F_s_LOSS_ordinal)), (xw W531 (xe E530 E_s_DRAW)), (fo W531 (fe E530 F_s_DRAW_ordinal)), (vo (ve V_s_SW E530) W531), (vo (ve V_s_EM E530) W531), (xw W531 (xe E530 E_c1)), (fo W531 (fe E530 F_c1_wins)), (fo W531 (fe E530 F_c1_draws)), (fo W531 (fe E530 F_c1_losses)), (fo W531 (fe E530 F_c1_matches)), (fo W531 (fe E530 F_c1_drawnMatches)), (vo (ve V_c2 E530) W531), (vo (ve V_c3 E530) W531), (vo (ve V_c4 E530) W531), (xw W531 (xe E530 E_c5)), (fo W531 (fe E530 F_c5_wins)), (fo W531 (fe E530 F_c5_draws)), (fo W531 (fe E530 F_c5_losses)), (fo W531 (fe E530 F_c5_matches)), (fo W531 (fe E530 F_c5_drawnMatches)), (vo (ve V_c6 E530) W531), (vo (ve V_c7 E530) W531), (vo (ve V_c8 E530) W531), (xw W531 (xe E530 E_c9)), (fo W531 (fe E530 F_c9_modCount)), (fo W531 (fe E530 F_c9_elementData)), (fo W531 (fe E530 F_c9_s)), (xw W531 (xe E530 E_e0_)), (xw W531 (xe E530 E_c10)), (vo (ve V_c10 E530) W531), O_c10, (xw W531 (xe E530 E_e1_)), (xw W531 E_c11), (Fld.other W531 (fe E530 F_c11_modCount) (Or.inr (slot_ne (Or.inl (w41 hw)) (Or.inl (w44 hw)) (by decide) (t := .int) (t' := (.array (.object "java/lang/Object"))) (by decide) (by decide)))), (Fld.same W531 F_c11_elementData), (Fld.other W531 (fe E530 F_c11_s) (Or.inr (slot_ne (Or.inl (w59 hw)) (Or.inl (w44 hw)) (by decide) (t := .int) (t' := (.array (.object "java/lang/Object"))) (by decide) (by decide)))), (xw W531 (xe E530 E_e2_)), (xw W531 E_b530), (vo V_b530 W531), O_b530, g_c1, lt_c1_c2, lt_c2_c3, lt_c3_c4, lt_c4_c5, lt_c5_c6, lt_c6_c7, lt_c7_c8, lt_c8_c9, lt_c9_c10, lt_c10_c11, lt_c11_b530, od_s_WIN, od_s_LOSS, od_s_DRAW, od_s_SW, od_s_EM, od_e0_, od_e1_, od_e2_⟩) (by decide) (by decide)
def St20 (Z : State) (h : Heap) (n0 : Nat) (s_WIN : Nat) (s_LOSS : Nat) (s_DRAW : Nat) (s_SW : Nat) (s_EM : Nat) (e0_ : Nat) (e1_ : Nat) (e2_ : Nat) (c1 : Nat) (c2 : Nat) (c3 : Nat) (c4 : Nat) (c5 : Nat) (c6 : Nat) (c7 : Nat) (c8 : Nat) (c9 : Nat) (c10 : Nat) (c11 : Nat) (b534 : Nat) (k901 : ClassId) (k902 : ClassId) (kc1 : ClassId) (kc2 : ClassId) (kc3 : ClassId) (kc4 : ClassId) (kc5 : ClassId) (kc6 : ClassId) (kc7 : ClassId) (kb533 : ClassId) : Prop :=
  Sta Z h cR "WIN" "Lcom/example/gamesmith/gamesmith/game/Result;" (.ref s_WIN) ∧
  Sta Z h cR "LOSS" "Lcom/example/gamesmith/gamesmith/game/Result;" (.ref s_LOSS) ∧
  Sta Z h cR "DRAW" "Lcom/example/gamesmith/gamesmith/game/Result;" (.ref s_DRAW) ∧
  Sta Z h "com/example/gamesmith/gamesmith/arena/Tally$1" "$SwitchMap$com$example$gamesmith$gamesmith$game$Result" "[I" (.ref s_SW) ∧
  Sta Z h cA "DEFAULTCAPACITY_EMPTY_ELEMENTDATA" "[Ljava/lang/Object;" (.ref s_EM) ∧
  Exa Z h s_WIN cR ∧
  Fld Z h s_WIN "java/lang/Enum" "ordinal" "I" (.int 0) ∧
  Exa Z h s_LOSS cR ∧
  Fld Z h s_LOSS "java/lang/Enum" "ordinal" "I" (.int 1) ∧
  Exa Z h s_DRAW cR ∧
  Fld Z h s_DRAW "java/lang/Enum" "ordinal" "I" (.int 2) ∧
  Arv Z h s_SW k901 .int 3 [(.int 1), (.int 3), (.int 2)] (.int 0) ∧
  Arv Z h s_EM k902 (.object "java/lang/Object") 0 [] .null ∧
  Exa Z h c1 cT ∧
  Fld Z h c1 cT "wins" "[I" (.ref c2) ∧
  Fld Z h c1 cT "draws" "[I" (.ref c3) ∧
  Fld Z h c1 cT "losses" "[I" (.ref c4) ∧
  Fld Z h c1 cT "matches" "I" (.int 0) ∧
  Fld Z h c1 cT "drawnMatches" "I" (.int 0) ∧
  Arv Z h c2 kc1 .int 2 [(.int 0), (.int 0)] (.int 0) ∧
  Arv Z h c3 kc2 .int 2 [(.int 0), (.int 0)] (.int 0) ∧
  Arv Z h c4 kc3 .int 2 [(.int 0), (.int 0)] (.int 0) ∧
  Exa Z h c5 cT ∧
  Fld Z h c5 cT "wins" "[I" (.ref c6) ∧
  Fld Z h c5 cT "draws" "[I" (.ref c7) ∧
  Fld Z h c5 cT "losses" "[I" (.ref c8) ∧
  Fld Z h c5 cT "matches" "I" (.int 0) ∧
  Fld Z h c5 cT "drawnMatches" "I" (.int 0) ∧
  Arv Z h c6 kc4 .int 2 [(.int 0), (.int 0)] (.int 0) ∧
  Arv Z h c7 kc5 .int 2 [(.int 0), (.int 0)] (.int 0) ∧
  Arv Z h c8 kc6 .int 2 [(.int 0), (.int 0)] (.int 0) ∧
  Exa Z h c9 cA ∧
  Fld Z h c9 "java/util/AbstractList" "modCount" "I" (.int 2) ∧
  Fld Z h c9 cA "elementData" "[Ljava/lang/Object;" (.ref c10) ∧
  Fld Z h c9 cA "size" "I" (.int 2) ∧
  Exa Z h e0_ cR ∧
  Exa Z h c10 "[Ljava/lang/Object;" ∧
  Arv Z h c10 kc7 (.object "java/lang/Object") 10 [(.ref e0_), (.ref e1_), .null, .null, .null, .null, .null, .null, .null, .null] .null ∧
  Ovr Z kc7 "java/lang/Object" ∧
  Exa Z h e1_ cR ∧
  Exa Z h c11 cA ∧
  Fld Z h c11 "java/util/AbstractList" "modCount" "I" (.int 1) ∧
  Fld Z h c11 cA "elementData" "[Ljava/lang/Object;" (.ref b534) ∧
  Fld Z h c11 cA "size" "I" (.int 0) ∧
  Exa Z h e2_ cR ∧
  Exa Z h b534 "[Ljava/lang/Object;" ∧
  Arv Z h b534 kb533 (.object "java/lang/Object") 10 [.null, .null, .null, .null, .null, .null, .null, .null, .null, .null] .null ∧
  Ovr Z kb533 "java/lang/Object" ∧
  n0 ≤ c1 ∧
  c1 < c2 ∧
  c2 < c3 ∧
  c3 < c4 ∧
  c4 < c5 ∧
  c5 < c6 ∧
  c6 < c7 ∧
  c7 < c8 ∧
  c8 < c9 ∧
  c9 < c10 ∧
  c10 < c11 ∧
  c11 < b534 ∧
  s_WIN < n0 ∧
  s_LOSS < n0 ∧
  s_DRAW < n0 ∧
  s_SW < n0 ∧
  s_EM < n0 ∧
  e0_ < n0 ∧
  e1_ < n0 ∧
  e2_ < n0
def Qm536 (Z : State) (n0 : Nat) (s_WIN : Nat) (s_LOSS : Nat) (s_DRAW : Nat) (s_SW : Nat) (s_EM : Nat) (e0_ : Nat) (e1_ : Nat) (e2_ : Nat) (c1 : Nat) (c2 : Nat) (c3 : Nat) (c4 : Nat) (c5 : Nat) (c6 : Nat) (c7 : Nat) (c8 : Nat) (c9 : Nat) (c10 : Nat) (c11 : Nat) (k901 : ClassId) (k902 : ClassId) (kc1 : ClassId) (kc2 : ClassId) (kc3 : ClassId) (kc4 : ClassId) (kc5 : ClassId) (kc6 : ClassId) (kc7 : ClassId) (v : Option Value) (h : Heap) (L : List Loc) : Prop := ∃ (kb533 : ClassId) (b534 : Nat), v = some (.ref b534) ∧ Fr n0 L ∧ St20 Z h n0 s_WIN s_LOSS s_DRAW s_SW s_EM e0_ e1_ e2_ c1 c2 c3 c4 c5 c6 c7 c8 c9 c10 c11 b534 k901 k902 kc1 kc2 kc3 kc4 kc5 kc6 kc7 kb533
theorem m536 (l : Launch) (Z : State) (a0 : Array Value) (hw : HW a0 Z) (ws : List Jvm.Cond) (h0 : Heap) (n0 : Nat) (s_WIN : Nat) (s_LOSS : Nat) (s_DRAW : Nat) (s_SW : Nat) (s_EM : Nat) (e0_ : Nat) (e1_ : Nat) (e2_ : Nat) (c1 : Nat) (c2 : Nat) (c3 : Nat) (c4 : Nat) (c5 : Nat) (c6 : Nat) (c7 : Nat) (c8 : Nat) (c9 : Nat) (c10 : Nat) (c11 : Nat) (k901 : ClassId) (k902 : ClassId) (kc1 : ClassId) (kc2 : ClassId) (kc3 : ClassId) (kc4 : ClassId) (kc5 : ClassId) (kc6 : ClassId) (kc7 : ClassId) (P : St18 Z h0 n0 s_WIN s_LOSS s_DRAW s_SW s_EM e0_ e1_ e2_ c1 c2 c3 c4 c5 c6 c7 c8 c9 c10 c11 k901 k902 kc1 kc2 kc3 kc4 kc5 kc6 kc7) :
    MC l Z y9 jdk_38_method_7_code 1 (some (.array (.object "java/lang/Object"))) ws rm_2_1_10_29 #[(.ref c11)] h0 (Qm536 Z n0 s_WIN s_LOSS s_DRAW s_SW s_EM e0_ e1_ e2_ c1 c2 c3 c4 c5 c6 c7 c8 c9 c10 c11 k901 k902 kc1 kc2 kc3 kc4 kc5 kc6 kc7) := by
  obtain ⟨S_WIN, S_LOSS, S_DRAW, S__SwitchMap_com_example_g, S_DEFAULTCAPACITY_EMPTY_EL, E_s_WIN, F_s_WIN_ordinal, E_s_LOSS, F_s_LOSS_ordinal, E_s_DRAW, F_s_DRAW_ordinal, V_s_SW, V_s_EM, E_c1, F_c1_wins, F_c1_draws, F_c1_losses, F_c1_matches, F_c1_drawnMatches, V_c2, V_c3, V_c4, E_c5, F_c5_wins, F_c5_draws, F_c5_losses, F_c5_matches, F_c5_drawnMatches, V_c6, V_c7, V_c8, E_c9, F_c9_modCount, F_c9_elementData, F_c9_s, E_e0_, E_c10, V_c10, O_c10, E_e1_, E_c11, F_c11_modCount, F_c11_elementData, F_c11_s, E_e2_, g_c1, lt_c1_c2, lt_c2_c3, lt_c3_c4, lt_c4_c5, lt_c5_c6, lt_c6_c7, lt_c7_c8, lt_c8_c9, lt_c9_c10, lt_c10_c11, od_s_WIN, od_s_LOSS, od_s_DRAW, od_s_SW, od_s_EM, od_e0_, od_e1_, od_e2_⟩ := id P
  refine own_met (plainFor_of_name pn9) fun p e s m below meth c s₁ X0 hx hZ Y hml hO hnm hlk hret e0 => f_cast (f' := mkF m 0 #[(rv c11)] []) (by first | (simp [entryFrame, mkF, argsToLocals, Value.category]; done) | rfl) ?_
  have N0 := Fr.nil n0
  refine aN X0 hx (hb Y d9_0) rfl rfl <| aN X0 hx (hb Y d9_1) rfl rfl <| gF X0 hx hZ hO (w58 hw) Via.refl e0 F_c11_s (hb Y d9_2) fun T518 X518 e518 => ?_
  refine iK X518 hx (z := 1) (hb Y d9_5) <| iA X518 hx (z := 1) (hb Y d9_6) ?_
  have P535 : St18 Z h0 n0 s_WIN s_LOSS s_DRAW s_SW s_EM e0_ e1_ e2_ c1 c2 c3 c4 c5 c6 c7 c8 c9 c10 c11 k901 k902 kc1 kc2 kc3 kc4 kc5 kc6 kc7 := ⟨S_WIN, S_LOSS, S_DRAW, S__SwitchMap_com_example_g, S_DEFAULTCAPACITY_EMPTY_EL, E_s_WIN, F_s_WIN_ordinal, E_s_LOSS, F_s_LOSS_ordinal, E_s_DRAW, F_s_DRAW_ordinal, V_s_SW, V_s_EM, E_c1, F_c1_wins, F_c1_draws, F_c1_losses, F_c1_matches, F_c1_drawnMatches, V_c2, V_c3, V_c4, E_c5, F_c5_wins, F_c5_draws, F_c5_losses, F_c5_matches, F_c5_drawnMatches, V_c6, V_c7, V_c8, E_c9, F_c9_modCount, F_c9_elementData, F_c9_s, E_e0_, E_c10, V_c10, O_c10, E_e1_, E_c11, F_c11_modCount, F_c11_elementData, F_c11_s, E_e2_, g_c1, lt_c1_c2, lt_c2_c3, lt_c3_c4, lt_c4_c5, lt_c5_c6, lt_c6_c7, lt_c7_c8, lt_c8_c9, lt_c9_c10, lt_c10_c11, od_s_WIN, od_s_LOSS, od_s_DRAW, od_s_SW, od_s_EM, od_e0_, od_e1_, od_e2_⟩
  refine pV X518 hx hZ hO (by rw [hml]; rfl) (w70 hw) (w71 hw) (w72 hw) (w22 hw) (w23 hw) (w74 hw) e518 E_c11 (argsL := [(.int 1)]) (rest := []) (m532 l Z a0 hw [] h0 n0 s_WIN s_LOSS s_DRAW s_SW s_EM e0_ e1_ e2_ c1 c2 c3 c4 c5 c6 c7 c8 c9 c10 c11 k901 k902 kc1 kc2 kc3 kc4 kc5 kc6 kc7 P535) (lenOf pd5 rfl) (hb Y d9_7) fun T519 L519 v519 X519 hQ519 => ?_
  obtain ⟨kb533, b534, rfl, N519q, P519⟩ := hQ519
  obtain ⟨S_WIN, S_LOSS, S_DRAW, S__SwitchMap_com_example_g, S_DEFAULTCAPACITY_EMPTY_EL, E_s_WIN, F_s_WIN_ordinal, E_s_LOSS, F_s_LOSS_ordinal, E_s_DRAW, F_s_DRAW_ordinal, V_s_SW, V_s_EM, E_c1, F_c1_wins, F_c1_draws, F_c1_losses, F_c1_matches, F_c1_drawnMatches, V_c2, V_c3, V_c4, E_c5, F_c5_wins, F_c5_draws, F_c5_losses, F_c5_matches, F_c5_drawnMatches, V_c6, V_c7, V_c8, E_c9, F_c9_modCount, F_c9_elementData, F_c9_s, E_e0_, E_c10, V_c10, O_c10, E_e1_, E_c11, F_c11_modCount, F_c11_elementData, F_c11_s, E_e2_, E_b534, V_b534, O_b534, g_c1, lt_c1_c2, lt_c2_c3, lt_c3_c4, lt_c4_c5, lt_c5_c6, lt_c6_c7, lt_c7_c8, lt_c8_c9, lt_c9_c10, lt_c10_c11, lt_c11_b534, od_s_WIN, od_s_LOSS, od_s_DRAW, od_s_SW, od_s_EM, od_e0_, od_e1_, od_e2_⟩ := id P519
  have N519 := Fr.app N0 N519q
  exact f_ret X519 hx hlk (i := .areturn) hret rfl (Or.inr (Or.inr (Or.inr (Or.inr ⟨rfl, rfl, rfl⟩)))) (hb Y d9_10) (QQ := (Qm536 Z n0 s_WIN s_LOSS s_DRAW s_SW s_EM e0_ e1_ e2_ c1 c2 c3 c4 c5 c6 c7 c8 c9 c10 c11 k901 k902 kc1 kc2 kc3 kc4 kc5 kc6 kc7)) ⟨kb533, b534, rfl, N519, S_WIN, S_LOSS, S_DRAW, S__SwitchMap_com_example_g, S_DEFAULTCAPACITY_EMPTY_EL, E_s_WIN, F_s_WIN_ordinal, E_s_LOSS, F_s_LOSS_ordinal, E_s_DRAW, F_s_DRAW_ordinal, V_s_SW, V_s_EM, E_c1, F_c1_wins, F_c1_draws, F_c1_losses, F_c1_matches, F_c1_drawnMatches, V_c2, V_c3, V_c4, E_c5, F_c5_wins, F_c5_draws, F_c5_losses, F_c5_matches, F_c5_drawnMatches, V_c6, V_c7, V_c8, E_c9, F_c9_modCount, F_c9_elementData, F_c9_s, E_e0_, E_c10, V_c10, O_c10, E_e1_, E_c11, F_c11_modCount, F_c11_elementData, F_c11_s, E_e2_, E_b534, V_b534, O_b534, g_c1, lt_c1_c2, lt_c2_c3, lt_c3_c4, lt_c4_c5, lt_c5_c6, lt_c6_c7, lt_c7_c8, lt_c8_c9, lt_c9_c10, lt_c10_c11, lt_c11_b534, od_s_WIN, od_s_LOSS, od_s_DRAW, od_s_SW, od_s_EM, od_e0_, od_e1_, od_e2_⟩ (by decide) (by decide)
def St21 (Z : State) (h : Heap) (n0 : Nat) (s_WIN : Nat) (s_LOSS : Nat) (s_DRAW : Nat) (s_SW : Nat) (s_EM : Nat) (e0_ : Nat) (e1_ : Nat) (e2_ : Nat) (c1 : Nat) (c2 : Nat) (c3 : Nat) (c4 : Nat) (c5 : Nat) (c6 : Nat) (c7 : Nat) (c8 : Nat) (c9 : Nat) (c10 : Nat) (c11 : Nat) (b538 : Nat) (k901 : ClassId) (k902 : ClassId) (kc1 : ClassId) (kc2 : ClassId) (kc3 : ClassId) (kc4 : ClassId) (kc5 : ClassId) (kc6 : ClassId) (kc7 : ClassId) (kb537 : ClassId) : Prop :=
  Sta Z h cR "WIN" "Lcom/example/gamesmith/gamesmith/game/Result;" (.ref s_WIN) ∧
  Sta Z h cR "LOSS" "Lcom/example/gamesmith/gamesmith/game/Result;" (.ref s_LOSS) ∧
  Sta Z h cR "DRAW" "Lcom/example/gamesmith/gamesmith/game/Result;" (.ref s_DRAW) ∧
  Sta Z h "com/example/gamesmith/gamesmith/arena/Tally$1" "$SwitchMap$com$example$gamesmith$gamesmith$game$Result" "[I" (.ref s_SW) ∧
  Sta Z h cA "DEFAULTCAPACITY_EMPTY_ELEMENTDATA" "[Ljava/lang/Object;" (.ref s_EM) ∧
  Exa Z h s_WIN cR ∧
  Fld Z h s_WIN "java/lang/Enum" "ordinal" "I" (.int 0) ∧
  Exa Z h s_LOSS cR ∧
  Fld Z h s_LOSS "java/lang/Enum" "ordinal" "I" (.int 1) ∧
  Exa Z h s_DRAW cR ∧
  Fld Z h s_DRAW "java/lang/Enum" "ordinal" "I" (.int 2) ∧
  Arv Z h s_SW k901 .int 3 [(.int 1), (.int 3), (.int 2)] (.int 0) ∧
  Arv Z h s_EM k902 (.object "java/lang/Object") 0 [] .null ∧
  Exa Z h c1 cT ∧
  Fld Z h c1 cT "wins" "[I" (.ref c2) ∧
  Fld Z h c1 cT "draws" "[I" (.ref c3) ∧
  Fld Z h c1 cT "losses" "[I" (.ref c4) ∧
  Fld Z h c1 cT "matches" "I" (.int 0) ∧
  Fld Z h c1 cT "drawnMatches" "I" (.int 0) ∧
  Arv Z h c2 kc1 .int 2 [(.int 0), (.int 0)] (.int 0) ∧
  Arv Z h c3 kc2 .int 2 [(.int 0), (.int 0)] (.int 0) ∧
  Arv Z h c4 kc3 .int 2 [(.int 0), (.int 0)] (.int 0) ∧
  Exa Z h c5 cT ∧
  Fld Z h c5 cT "wins" "[I" (.ref c6) ∧
  Fld Z h c5 cT "draws" "[I" (.ref c7) ∧
  Fld Z h c5 cT "losses" "[I" (.ref c8) ∧
  Fld Z h c5 cT "matches" "I" (.int 0) ∧
  Fld Z h c5 cT "drawnMatches" "I" (.int 0) ∧
  Arv Z h c6 kc4 .int 2 [(.int 0), (.int 0)] (.int 0) ∧
  Arv Z h c7 kc5 .int 2 [(.int 0), (.int 0)] (.int 0) ∧
  Arv Z h c8 kc6 .int 2 [(.int 0), (.int 0)] (.int 0) ∧
  Exa Z h c9 cA ∧
  Fld Z h c9 "java/util/AbstractList" "modCount" "I" (.int 2) ∧
  Fld Z h c9 cA "elementData" "[Ljava/lang/Object;" (.ref c10) ∧
  Fld Z h c9 cA "size" "I" (.int 2) ∧
  Exa Z h e0_ cR ∧
  Exa Z h c10 "[Ljava/lang/Object;" ∧
  Arv Z h c10 kc7 (.object "java/lang/Object") 10 [(.ref e0_), (.ref e1_), .null, .null, .null, .null, .null, .null, .null, .null] .null ∧
  Ovr Z kc7 "java/lang/Object" ∧
  Exa Z h e1_ cR ∧
  Exa Z h c11 cA ∧
  Fld Z h c11 "java/util/AbstractList" "modCount" "I" (.int 1) ∧
  Fld Z h c11 cA "elementData" "[Ljava/lang/Object;" (.ref b538) ∧
  Fld Z h c11 cA "size" "I" (.int 1) ∧
  Exa Z h e2_ cR ∧
  Exa Z h b538 "[Ljava/lang/Object;" ∧
  Arv Z h b538 kb537 (.object "java/lang/Object") 10 [(.ref e2_), .null, .null, .null, .null, .null, .null, .null, .null, .null] .null ∧
  Ovr Z kb537 "java/lang/Object" ∧
  n0 ≤ c1 ∧
  c1 < c2 ∧
  c2 < c3 ∧
  c3 < c4 ∧
  c4 < c5 ∧
  c5 < c6 ∧
  c6 < c7 ∧
  c7 < c8 ∧
  c8 < c9 ∧
  c9 < c10 ∧
  c10 < c11 ∧
  c11 < b538 ∧
  s_WIN < n0 ∧
  s_LOSS < n0 ∧
  s_DRAW < n0 ∧
  s_SW < n0 ∧
  s_EM < n0 ∧
  e0_ < n0 ∧
  e1_ < n0 ∧
  e2_ < n0
def Qm542 (Z : State) (n0 : Nat) (s_WIN : Nat) (s_LOSS : Nat) (s_DRAW : Nat) (s_SW : Nat) (s_EM : Nat) (e0_ : Nat) (e1_ : Nat) (e2_ : Nat) (c1 : Nat) (c2 : Nat) (c3 : Nat) (c4 : Nat) (c5 : Nat) (c6 : Nat) (c7 : Nat) (c8 : Nat) (c9 : Nat) (c10 : Nat) (c11 : Nat) (k901 : ClassId) (k902 : ClassId) (kc1 : ClassId) (kc2 : ClassId) (kc3 : ClassId) (kc4 : ClassId) (kc5 : ClassId) (kc6 : ClassId) (kc7 : ClassId) (v : Option Value) (h : Heap) (L : List Loc) : Prop := ∃ (kb537 : ClassId) (b538 : Nat), v = none ∧ Fr n0 L ∧ St21 Z h n0 s_WIN s_LOSS s_DRAW s_SW s_EM e0_ e1_ e2_ c1 c2 c3 c4 c5 c6 c7 c8 c9 c10 c11 b538 k901 k902 kc1 kc2 kc3 kc4 kc5 kc6 kc7 kb537
theorem m542 (l : Launch) (Z : State) (a0 : Array Value) (hw : HW a0 Z) (ws : List Jvm.Cond) (h0 : Heap) (n0 : Nat) (s_WIN : Nat) (s_LOSS : Nat) (s_DRAW : Nat) (s_SW : Nat) (s_EM : Nat) (e0_ : Nat) (e1_ : Nat) (e2_ : Nat) (c1 : Nat) (c2 : Nat) (c3 : Nat) (c4 : Nat) (c5 : Nat) (c6 : Nat) (c7 : Nat) (c8 : Nat) (c9 : Nat) (c10 : Nat) (c11 : Nat) (k901 : ClassId) (k902 : ClassId) (kc1 : ClassId) (kc2 : ClassId) (kc3 : ClassId) (kc4 : ClassId) (kc5 : ClassId) (kc6 : ClassId) (kc7 : ClassId) (P : St18 Z h0 n0 s_WIN s_LOSS s_DRAW s_SW s_EM e0_ e1_ e2_ c1 c2 c3 c4 c5 c6 c7 c8 c9 c10 c11 k901 k902 kc1 kc2 kc3 kc4 kc5 kc6 kc7) :
    MC l Z y8 jdk_38_method_24_code 4 none ws rm_3_1_10_41 #[(.ref c11), (.ref e2_), (.ref s_EM), (.int 0)] h0 (Qm542 Z n0 s_WIN s_LOSS s_DRAW s_SW s_EM e0_ e1_ e2_ c1 c2 c3 c4 c5 c6 c7 c8 c9 c10 c11 k901 k902 kc1 kc2 kc3 kc4 kc5 kc6 kc7) := by
  obtain ⟨S_WIN, S_LOSS, S_DRAW, S__SwitchMap_com_example_g, S_DEFAULTCAPACITY_EMPTY_EL, E_s_WIN, F_s_WIN_ordinal, E_s_LOSS, F_s_LOSS_ordinal, E_s_DRAW, F_s_DRAW_ordinal, V_s_SW, V_s_EM, E_c1, F_c1_wins, F_c1_draws, F_c1_losses, F_c1_matches, F_c1_drawnMatches, V_c2, V_c3, V_c4, E_c5, F_c5_wins, F_c5_draws, F_c5_losses, F_c5_matches, F_c5_drawnMatches, V_c6, V_c7, V_c8, E_c9, F_c9_modCount, F_c9_elementData, F_c9_s, E_e0_, E_c10, V_c10, O_c10, E_e1_, E_c11, F_c11_modCount, F_c11_elementData, F_c11_s, E_e2_, g_c1, lt_c1_c2, lt_c2_c3, lt_c3_c4, lt_c4_c5, lt_c5_c6, lt_c6_c7, lt_c7_c8, lt_c8_c9, lt_c9_c10, lt_c10_c11, od_s_WIN, od_s_LOSS, od_s_DRAW, od_s_SW, od_s_EM, od_e0_, od_e1_, od_e2_⟩ := id P
  refine own_met (plainFor_of_name pn8) fun p e s m below meth c s₁ X0 hx hZ Y hml hO hnm hlk hret e0 => f_cast (f' := mkF m 0 #[(rv c11), (rv e2_), (rv s_EM), (iv 0)] []) (by first | (simp [entryFrame, mkF, argsToLocals, Value.category]; done) | rfl) ?_
  have N0 := Fr.nil n0
  refine iN X0 hx (hb Y d8_0) rfl <| aN X0 hx (hb Y d8_1) rfl rfl <| f_len X0 hx hZ e0 V_s_EM (hb Y d8_2) <| cN X0 hx (hb Y d8_3) <| aN X0 hx (hb Y d8_6) rfl rfl ?_
  have P539 : St18 Z h0 n0 s_WIN s_LOSS s_DRAW s_SW s_EM e0_ e1_ e2_ c1 c2 c3 c4 c5 c6 c7 c8 c9 c10 c11 k901 k902 kc1 kc2 kc3 kc4 kc5 kc6 kc7 := ⟨S_WIN, S_LOSS, S_DRAW, S__SwitchMap_com_example_g, S_DEFAULTCAPACITY_EMPTY_EL, E_s_WIN, F_s_WIN_ordinal, E_s_LOSS, F_s_LOSS_ordinal, E_s_DRAW, F_s_DRAW_ordinal, V_s_SW, V_s_EM, E_c1, F_c1_wins, F_c1_draws, F_c1_losses, F_c1_matches, F_c1_drawnMatches, V_c2, V_c3, V_c4, E_c5, F_c5_wins, F_c5_draws, F_c5_losses, F_c5_matches, F_c5_drawnMatches, V_c6, V_c7, V_c8, E_c9, F_c9_modCount, F_c9_elementData, F_c9_s, E_e0_, E_c10, V_c10, O_c10, E_e1_, E_c11, F_c11_modCount, F_c11_elementData, F_c11_s, E_e2_, g_c1, lt_c1_c2, lt_c2_c3, lt_c3_c4, lt_c4_c5, lt_c5_c6, lt_c6_c7, lt_c7_c8, lt_c8_c9, lt_c9_c10, lt_c10_c11, od_s_WIN, od_s_LOSS, od_s_DRAW, od_s_SW, od_s_EM, od_e0_, od_e1_, od_e2_⟩
  refine pV X0 hx hZ hO (by rw [hml]; rfl) (w65 hw) (w66 hw) (w67 hw) (w22 hw) (w23 hw) (w69 hw) e0 E_c11 (argsL := []) (rest := []) (m536 l Z a0 hw [] h0 n0 s_WIN s_LOSS s_DRAW s_SW s_EM e0_ e1_ e2_ c1 c2 c3 c4 c5 c6 c7 c8 c9 c10 c11 k901 k902 kc1 kc2 kc3 kc4 kc5 kc6 kc7 P539) (lenOf pd6 rfl) (hb Y d8_7) fun T499 L499 v499 X499 hQ499 => ?_
  obtain ⟨kb537, b538, rfl, N499q, P499⟩ := hQ499
  obtain ⟨S_WIN, S_LOSS, S_DRAW, S__SwitchMap_com_example_g, S_DEFAULTCAPACITY_EMPTY_EL, E_s_WIN, F_s_WIN_ordinal, E_s_LOSS, F_s_LOSS_ordinal, E_s_DRAW, F_s_DRAW_ordinal, V_s_SW, V_s_EM, E_c1, F_c1_wins, F_c1_draws, F_c1_losses, F_c1_matches, F_c1_drawnMatches, V_c2, V_c3, V_c4, E_c5, F_c5_wins, F_c5_draws, F_c5_losses, F_c5_matches, F_c5_drawnMatches, V_c6, V_c7, V_c8, E_c9, F_c9_modCount, F_c9_elementData, F_c9_s, E_e0_, E_c10, V_c10, O_c10, E_e1_, E_c11, F_c11_modCount, F_c11_elementData, F_c11_s, E_e2_, E_b538, V_b538, O_b538, g_c1, lt_c1_c2, lt_c2_c3, lt_c3_c4, lt_c4_c5, lt_c5_c6, lt_c6_c7, lt_c7_c8, lt_c8_c9, lt_c9_c10, lt_c10_c11, lt_c11_b538, od_s_WIN, od_s_LOSS, od_s_DRAW, od_s_SW, od_s_EM, od_e0_, od_e1_, od_e2_⟩ := id P499
  have N499 := Fr.app N0 N499q
  refine f_astoreN X499 hx (L' := #[(rv c11), (rv e2_), (rv b538), (iv 0)]) (hb Y d8_10) rfl rfl <| aN X499 hx (hb Y d8_11) rfl rfl <| iN X499 hx (hb Y d8_12) rfl <| aN X499 hx (hb Y d8_13) rfl rfl <| f_ast X499 hx hZ rfl V_b538 rfl (own_stoV V_b538 O_b538 (Ins.of_exa E_e2_ (w81 hw))) rfl 0 (hb Y d8_14) fun T540 h540 X540 e540 W540 V540 => ?_
  have N540x := Fr.snoc X540 N499 (by omega : n0 ≤ b538)
  refine aN X540 hx (hb Y d8_15) rfl rfl <| iN X540 hx (hb Y d8_16) rfl <| iK X540 hx (z := 1) (hb Y d8_17) <| iA X540 hx (z := 1) (hb Y d8_18) ?_
  replace F_c11_s := (fo W540 F_c11_s)
  replace E_c11 := (xw W540 E_c11)
  refine f_putF X540 hx hZ hO (w58 hw) Via.refl e540 F_c11_s E_c11 (Or.inl (w59 hw)) (w22 hw) (ty := .int) (by decide) rfl rfl (hb Y d8_19) fun T541 h541 X541 e541 W541 => ?_
  have N541x := Fr.snoc X541 N540x (by omega : n0 ≤ c11)
  exact f_ret0 X541 hx hlk hret (hb Y d8_22) (QQ := (Qm542 Z n0 s_WIN s_LOSS s_DRAW s_SW s_EM e0_ e1_ e2_ c1 c2 c3 c4 c5 c6 c7 c8 c9 c10 c11 k901 k902 kc1 kc2 kc3 kc4 kc5 kc6 kc7)) (by rw [e541]; exact ⟨kb537, b538, rfl, N541x, (Sta.wr W541 (Sta.wr W540 S_WIN)), (Sta.wr W541 (Sta.wr W540 S_LOSS)), (Sta.wr W541 (Sta.wr W540 S_DRAW)), (Sta.wr W541 (Sta.wr W540 S__SwitchMap_com_example_g)), (Sta.wr W541 (Sta.wr W540 S_DEFAULTCAPACITY_EMPTY_EL)), (xw W541 (xw W540 E_s_WIN)), (fo W541 (fo W540 F_s_WIN_ordinal)), (xw W541 (xw W540 E_s_LOSS)), (fo W541 (fo W540 F_s_LOSS_ordinal)), (xw W541 (xw W540 E_s_DRAW)), (fo W541 (fo W540 F_s_DRAW_ordinal)), (vo (vo V_s_SW W540) W541), (vo (vo V_s_EM W540) W541), (xw W541 (xw W540 E_c1)), (fo W541 (fo W540 F_c1_wins)), (fo W541 (fo W540 F_c1_draws)), (fo W541 (fo W540 F_c1_losses)), (fo W541 (fo W540 F_c1_matches)), (fo W541 (fo W540 F_c1_drawnMatches)), (vo (vo V_c2 W540) W541), (vo (vo V_c3 W540) W541), (vo (vo V_c4 W540) W541), (xw W541 (xw W540 E_c5)), (fo W541 (fo W540 F_c5_wins)), (fo W541 (fo W540 F_c5_draws)), (fo W541 (fo W540 F_c5_losses)), (fo W541 (fo W540 F_c5_matches)), (fo W541 (fo W540 F_c5_drawnMatches)), (vo (vo V_c6 W540) W541), (vo (vo V_c7 W540) W541), (vo (vo V_c8 W540) W541), (xw W541 (xw W540 E_c9)), (fo W541 (fo W540 F_c9_modCount)), (fo W541 (fo W540 F_c9_elementData)), (fo W541 (fo W540 F_c9_s)), (xw W541 (xw W540 E_e0_)), (xw W541 (xw W540 E_c10)), (vo (vo V_c10 W540) W541), O_c10, (xw W541 (xw W540 E_e1_)), (xw W541 E_c11), (Fld.other W541 (fo W540 F_c11_modCount) (Or.inr (slot_ne (Or.inl (w41 hw)) (Or.inl (w59 hw)) (by decide) (t := .int) (t' := .int) (by decide) (by decide)))), (Fld.other W541 (fo W540 F_c11_elementData) (Or.inr (slot_ne (Or.inl (w44 hw)) (Or.inl (w59 hw)) (by decide) (t := (.array (.object "java/lang/Object"))) (t' := .int) (by decide) (by decide)))), (Fld.same W541 F_c11_s), (xw W541 (xw W540 E_e2_)), (xw W541 (xw W540 E_b538)), (vo V540 W541), O_b538, g_c1, lt_c1_c2, lt_c2_c3, lt_c3_c4, lt_c4_c5, lt_c5_c6, lt_c6_c7, lt_c7_c8, lt_c8_c9, lt_c9_c10, lt_c10_c11, lt_c11_b538, od_s_WIN, od_s_LOSS, od_s_DRAW, od_s_SW, od_s_EM, od_e0_, od_e1_, od_e2_⟩) (by decide) (by decide)
def St22 (Z : State) (h : Heap) (n0 : Nat) (s_WIN : Nat) (s_LOSS : Nat) (s_DRAW : Nat) (s_SW : Nat) (s_EM : Nat) (e0_ : Nat) (e1_ : Nat) (e2_ : Nat) (c1 : Nat) (c2 : Nat) (c3 : Nat) (c4 : Nat) (c5 : Nat) (c6 : Nat) (c7 : Nat) (c8 : Nat) (c9 : Nat) (c10 : Nat) (c11 : Nat) (k901 : ClassId) (k902 : ClassId) (kc1 : ClassId) (kc2 : ClassId) (kc3 : ClassId) (kc4 : ClassId) (kc5 : ClassId) (kc6 : ClassId) (kc7 : ClassId) : Prop :=
  Sta Z h cR "WIN" "Lcom/example/gamesmith/gamesmith/game/Result;" (.ref s_WIN) ∧
  Sta Z h cR "LOSS" "Lcom/example/gamesmith/gamesmith/game/Result;" (.ref s_LOSS) ∧
  Sta Z h cR "DRAW" "Lcom/example/gamesmith/gamesmith/game/Result;" (.ref s_DRAW) ∧
  Sta Z h "com/example/gamesmith/gamesmith/arena/Tally$1" "$SwitchMap$com$example$gamesmith$gamesmith$game$Result" "[I" (.ref s_SW) ∧
  Sta Z h cA "DEFAULTCAPACITY_EMPTY_ELEMENTDATA" "[Ljava/lang/Object;" (.ref s_EM) ∧
  Exa Z h s_WIN cR ∧
  Fld Z h s_WIN "java/lang/Enum" "ordinal" "I" (.int 0) ∧
  Exa Z h s_LOSS cR ∧
  Fld Z h s_LOSS "java/lang/Enum" "ordinal" "I" (.int 1) ∧
  Exa Z h s_DRAW cR ∧
  Fld Z h s_DRAW "java/lang/Enum" "ordinal" "I" (.int 2) ∧
  Arv Z h s_SW k901 .int 3 [(.int 1), (.int 3), (.int 2)] (.int 0) ∧
  Arv Z h s_EM k902 (.object "java/lang/Object") 0 [] .null ∧
  Exa Z h c1 cT ∧
  Fld Z h c1 cT "wins" "[I" (.ref c2) ∧
  Fld Z h c1 cT "draws" "[I" (.ref c3) ∧
  Fld Z h c1 cT "losses" "[I" (.ref c4) ∧
  Fld Z h c1 cT "matches" "I" (.int 0) ∧
  Fld Z h c1 cT "drawnMatches" "I" (.int 0) ∧
  Arv Z h c2 kc1 .int 2 [(.int 0), (.int 0)] (.int 0) ∧
  Arv Z h c3 kc2 .int 2 [(.int 0), (.int 0)] (.int 0) ∧
  Arv Z h c4 kc3 .int 2 [(.int 0), (.int 0)] (.int 0) ∧
  Exa Z h c5 cT ∧
  Fld Z h c5 cT "wins" "[I" (.ref c6) ∧
  Fld Z h c5 cT "draws" "[I" (.ref c7) ∧
  Fld Z h c5 cT "losses" "[I" (.ref c8) ∧
  Fld Z h c5 cT "matches" "I" (.int 0) ∧
  Fld Z h c5 cT "drawnMatches" "I" (.int 0) ∧
  Arv Z h c6 kc4 .int 2 [(.int 0), (.int 0)] (.int 0) ∧
  Arv Z h c7 kc5 .int 2 [(.int 0), (.int 0)] (.int 0) ∧
  Arv Z h c8 kc6 .int 2 [(.int 0), (.int 0)] (.int 0) ∧
  Exa Z h c9 cA ∧
  Fld Z h c9 "java/util/AbstractList" "modCount" "I" (.int 2) ∧
  Fld Z h c9 cA "elementData" "[Ljava/lang/Object;" (.ref c10) ∧
  Fld Z h c9 cA "size" "I" (.int 2) ∧
  Exa Z h e0_ cR ∧
  Exa Z h c10 "[Ljava/lang/Object;" ∧
  Arv Z h c10 kc7 (.object "java/lang/Object") 10 [(.ref e0_), (.ref e1_), .null, .null, .null, .null, .null, .null, .null, .null] .null ∧
  Ovr Z kc7 "java/lang/Object" ∧
  Exa Z h e1_ cR ∧
  Exa Z h c11 cA ∧
  Fld Z h c11 "java/util/AbstractList" "modCount" "I" (.int 0) ∧
  Fld Z h c11 cA "elementData" "[Ljava/lang/Object;" (.ref s_EM) ∧
  Fld Z h c11 cA "size" "I" (.int 0) ∧
  Exa Z h e2_ cR ∧
  n0 ≤ c1 ∧
  c1 < c2 ∧
  c2 < c3 ∧
  c3 < c4 ∧
  c4 < c5 ∧
  c5 < c6 ∧
  c6 < c7 ∧
  c7 < c8 ∧
  c8 < c9 ∧
  c9 < c10 ∧
  c10 < c11 ∧
  s_WIN < n0 ∧
  s_LOSS < n0 ∧
  s_DRAW < n0 ∧
  s_SW < n0 ∧
  s_EM < n0 ∧
  e0_ < n0 ∧
  e1_ < n0 ∧
  e2_ < n0
def St23 (Z : State) (h : Heap) (n0 : Nat) (s_WIN : Nat) (s_LOSS : Nat) (s_DRAW : Nat) (s_SW : Nat) (s_EM : Nat) (e0_ : Nat) (e1_ : Nat) (e2_ : Nat) (c1 : Nat) (c2 : Nat) (c3 : Nat) (c4 : Nat) (c5 : Nat) (c6 : Nat) (c7 : Nat) (c8 : Nat) (c9 : Nat) (c10 : Nat) (c11 : Nat) (b544 : Nat) (k901 : ClassId) (k902 : ClassId) (kc1 : ClassId) (kc2 : ClassId) (kc3 : ClassId) (kc4 : ClassId) (kc5 : ClassId) (kc6 : ClassId) (kc7 : ClassId) (kb543 : ClassId) : Prop :=
  Sta Z h cR "WIN" "Lcom/example/gamesmith/gamesmith/game/Result;" (.ref s_WIN) ∧
  Sta Z h cR "LOSS" "Lcom/example/gamesmith/gamesmith/game/Result;" (.ref s_LOSS) ∧
  Sta Z h cR "DRAW" "Lcom/example/gamesmith/gamesmith/game/Result;" (.ref s_DRAW) ∧
  Sta Z h "com/example/gamesmith/gamesmith/arena/Tally$1" "$SwitchMap$com$example$gamesmith$gamesmith$game$Result" "[I" (.ref s_SW) ∧
  Sta Z h cA "DEFAULTCAPACITY_EMPTY_ELEMENTDATA" "[Ljava/lang/Object;" (.ref s_EM) ∧
  Exa Z h s_WIN cR ∧
  Fld Z h s_WIN "java/lang/Enum" "ordinal" "I" (.int 0) ∧
  Exa Z h s_LOSS cR ∧
  Fld Z h s_LOSS "java/lang/Enum" "ordinal" "I" (.int 1) ∧
  Exa Z h s_DRAW cR ∧
  Fld Z h s_DRAW "java/lang/Enum" "ordinal" "I" (.int 2) ∧
  Arv Z h s_SW k901 .int 3 [(.int 1), (.int 3), (.int 2)] (.int 0) ∧
  Arv Z h s_EM k902 (.object "java/lang/Object") 0 [] .null ∧
  Exa Z h c1 cT ∧
  Fld Z h c1 cT "wins" "[I" (.ref c2) ∧
  Fld Z h c1 cT "draws" "[I" (.ref c3) ∧
  Fld Z h c1 cT "losses" "[I" (.ref c4) ∧
  Fld Z h c1 cT "matches" "I" (.int 0) ∧
  Fld Z h c1 cT "drawnMatches" "I" (.int 0) ∧
  Arv Z h c2 kc1 .int 2 [(.int 0), (.int 0)] (.int 0) ∧
  Arv Z h c3 kc2 .int 2 [(.int 0), (.int 0)] (.int 0) ∧
  Arv Z h c4 kc3 .int 2 [(.int 0), (.int 0)] (.int 0) ∧
  Exa Z h c5 cT ∧
  Fld Z h c5 cT "wins" "[I" (.ref c6) ∧
  Fld Z h c5 cT "draws" "[I" (.ref c7) ∧
  Fld Z h c5 cT "losses" "[I" (.ref c8) ∧
  Fld Z h c5 cT "matches" "I" (.int 0) ∧
  Fld Z h c5 cT "drawnMatches" "I" (.int 0) ∧
  Arv Z h c6 kc4 .int 2 [(.int 0), (.int 0)] (.int 0) ∧
  Arv Z h c7 kc5 .int 2 [(.int 0), (.int 0)] (.int 0) ∧
  Arv Z h c8 kc6 .int 2 [(.int 0), (.int 0)] (.int 0) ∧
  Exa Z h c9 cA ∧
  Fld Z h c9 "java/util/AbstractList" "modCount" "I" (.int 2) ∧
  Fld Z h c9 cA "elementData" "[Ljava/lang/Object;" (.ref c10) ∧
  Fld Z h c9 cA "size" "I" (.int 2) ∧
  Exa Z h e0_ cR ∧
  Exa Z h c10 "[Ljava/lang/Object;" ∧
  Arv Z h c10 kc7 (.object "java/lang/Object") 10 [(.ref e0_), (.ref e1_), .null, .null, .null, .null, .null, .null, .null, .null] .null ∧
  Ovr Z kc7 "java/lang/Object" ∧
  Exa Z h e1_ cR ∧
  Exa Z h c11 cA ∧
  Fld Z h c11 "java/util/AbstractList" "modCount" "I" (.int 1) ∧
  Fld Z h c11 cA "elementData" "[Ljava/lang/Object;" (.ref b544) ∧
  Fld Z h c11 cA "size" "I" (.int 1) ∧
  Exa Z h e2_ cR ∧
  Exa Z h b544 "[Ljava/lang/Object;" ∧
  Arv Z h b544 kb543 (.object "java/lang/Object") 10 [(.ref e2_), .null, .null, .null, .null, .null, .null, .null, .null, .null] .null ∧
  Ovr Z kb543 "java/lang/Object" ∧
  n0 ≤ c1 ∧
  c1 < c2 ∧
  c2 < c3 ∧
  c3 < c4 ∧
  c4 < c5 ∧
  c5 < c6 ∧
  c6 < c7 ∧
  c7 < c8 ∧
  c8 < c9 ∧
  c9 < c10 ∧
  c10 < c11 ∧
  c11 < b544 ∧
  s_WIN < n0 ∧
  s_LOSS < n0 ∧
  s_DRAW < n0 ∧
  s_SW < n0 ∧
  s_EM < n0 ∧
  e0_ < n0 ∧
  e1_ < n0 ∧
  e2_ < n0
def Qm546 (Z : State) (n0 : Nat) (s_WIN : Nat) (s_LOSS : Nat) (s_DRAW : Nat) (s_SW : Nat) (s_EM : Nat) (e0_ : Nat) (e1_ : Nat) (e2_ : Nat) (c1 : Nat) (c2 : Nat) (c3 : Nat) (c4 : Nat) (c5 : Nat) (c6 : Nat) (c7 : Nat) (c8 : Nat) (c9 : Nat) (c10 : Nat) (c11 : Nat) (k901 : ClassId) (k902 : ClassId) (kc1 : ClassId) (kc2 : ClassId) (kc3 : ClassId) (kc4 : ClassId) (kc5 : ClassId) (kc6 : ClassId) (kc7 : ClassId) (v : Option Value) (h : Heap) (L : List Loc) : Prop := ∃ (kb543 : ClassId) (b544 : Nat), v = some (.int 1) ∧ Fr n0 L ∧ St23 Z h n0 s_WIN s_LOSS s_DRAW s_SW s_EM e0_ e1_ e2_ c1 c2 c3 c4 c5 c6 c7 c8 c9 c10 c11 b544 k901 k902 kc1 kc2 kc3 kc4 kc5 kc6 kc7 kb543
theorem m546 (l : Launch) (Z : State) (a0 : Array Value) (hw : HW a0 Z) (ws : List Jvm.Cond) (h0 : Heap) (n0 : Nat) (s_WIN : Nat) (s_LOSS : Nat) (s_DRAW : Nat) (s_SW : Nat) (s_EM : Nat) (e0_ : Nat) (e1_ : Nat) (e2_ : Nat) (c1 : Nat) (c2 : Nat) (c3 : Nat) (c4 : Nat) (c5 : Nat) (c6 : Nat) (c7 : Nat) (c8 : Nat) (c9 : Nat) (c10 : Nat) (c11 : Nat) (k901 : ClassId) (k902 : ClassId) (kc1 : ClassId) (kc2 : ClassId) (kc3 : ClassId) (kc4 : ClassId) (kc5 : ClassId) (kc6 : ClassId) (kc7 : ClassId) (P : St22 Z h0 n0 s_WIN s_LOSS s_DRAW s_SW s_EM e0_ e1_ e2_ c1 c2 c3 c4 c5 c6 c7 c8 c9 c10 c11 k901 k902 kc1 kc2 kc3 kc4 kc5 kc6 kc7) :
    MC l Z y7 jdk_38_method_25_code 2 (some .boolean) ws rm_4_1_10_56 #[(.ref c11), (.ref e2_)] h0 (Qm546 Z n0 s_WIN s_LOSS s_DRAW s_SW s_EM e0_ e1_ e2_ c1 c2 c3 c4 c5 c6 c7 c8 c9 c10 c11 k901 k902 kc1 kc2 kc3 kc4 kc5 kc6 kc7) := by
  obtain ⟨S_WIN, S_LOSS, S_DRAW, S__SwitchMap_com_example_g, S_DEFAULTCAPACITY_EMPTY_EL, E_s_WIN, F_s_WIN_ordinal, E_s_LOSS, F_s_LOSS_ordinal, E_s_DRAW, F_s_DRAW_ordinal, V_s_SW, V_s_EM, E_c1, F_c1_wins, F_c1_draws, F_c1_losses, F_c1_matches, F_c1_drawnMatches, V_c2, V_c3, V_c4, E_c5, F_c5_wins, F_c5_draws, F_c5_losses, F_c5_matches, F_c5_drawnMatches, V_c6, V_c7, V_c8, E_c9, F_c9_modCount, F_c9_elementData, F_c9_s, E_e0_, E_c10, V_c10, O_c10, E_e1_, E_c11, F_c11_modCount, F_c11_elementData, F_c11_s, E_e2_, g_c1, lt_c1_c2, lt_c2_c3, lt_c3_c4, lt_c4_c5, lt_c5_c6, lt_c6_c7, lt_c7_c8, lt_c8_c9, lt_c9_c10, lt_c10_c11, od_s_WIN, od_s_LOSS, od_s_DRAW, od_s_SW, od_s_EM, od_e0_, od_e1_, od_e2_⟩ := id P
  refine own_met (plainFor_of_name pn7) fun p e s m below meth c s₁ X0 hx hZ Y hml hO hnm hlk hret e0 => f_cast (f' := mkF m 0 #[(rv c11), (rv e2_)] []) (by first | (simp [entryFrame, mkF, argsToLocals, Value.category]; done) | rfl) ?_
  have N0 := Fr.nil n0
  refine aN X0 hx (hb Y d7_0) rfl rfl <| f_dup X0 hx (hb Y d7_1) rfl <| gF X0 hx hZ hO (w56 hw) (Via.of (w57 hw)) e0 F_c11_modCount (hb Y d7_2) fun T451 X451 e451 => ?_
  refine iK X451 hx (z := 1) (hb Y d7_5) <| iA X451 hx (z := 1) (hb Y d7_6) <| f_putF X451 hx hZ hO (w56 hw) (Via.of (w57 hw)) e451 F_c11_modCount E_c11 (Or.inl (w41 hw)) (w22 hw) (ty := .int) (by decide) rfl rfl (hb Y d7_7) fun T452 h452 X452 e452 W452 => ?_
  have N452x := Fr.snoc X452 N0 (by omega : n0 ≤ c11)
  refine aN X452 hx (hb Y d7_10) rfl rfl <| aN X452 hx (hb Y d7_11) rfl rfl <| aN X452 hx (hb Y d7_12) rfl rfl ?_
  replace F_c11_elementData := (Fld.other W452 F_c11_elementData (Or.inr (slot_ne (Or.inl (w44 hw)) (Or.inl (w41 hw)) (by decide) (t := (.array (.object "java/lang/Object"))) (t' := .int) (by decide) (by decide))))
  refine gF X452 hx hZ hO (w43 hw) Via.refl e452 F_c11_elementData (hb Y d7_13) fun T453 X453 e453 => ?_
  refine aN X453 hx (hb Y d7_16) rfl rfl ?_
  replace F_c11_s := (Fld.other W452 F_c11_s (Or.inr (slot_ne (Or.inl (w59 hw)) (Or.inl (w41 hw)) (by decide) (t := .int) (t' := .int) (by decide) (by decide))))
  refine gF X453 hx hZ hO (w58 hw) Via.refl e453 F_c11_s (hb Y d7_17) fun T454 X454 e454 => ?_
  have P545 : St18 Z h452 n0 s_WIN s_LOSS s_DRAW s_SW s_EM e0_ e1_ e2_ c1 c2 c3 c4 c5 c6 c7 c8 c9 c10 c11 k901 k902 kc1 kc2 kc3 kc4 kc5 kc6 kc7 := ⟨(Sta.wr W452 S_WIN), (Sta.wr W452 S_LOSS), (Sta.wr W452 S_DRAW), (Sta.wr W452 S__SwitchMap_com_example_g), (Sta.wr W452 S_DEFAULTCAPACITY_EMPTY_EL), (xw W452 E_s_WIN), (fo W452 F_s_WIN_ordinal), (xw W452 E_s_LOSS), (fo W452 F_s_LOSS_ordinal), (xw W452 E_s_DRAW), (fo W452 F_s_DRAW_ordinal), (vo V_s_SW W452), (vo V_s_EM W452), (xw W452 E_c1), (fo W452 F_c1_wins), (fo W452 F_c1_draws), (fo W452 F_c1_losses), (fo W452 F_c1_matches), (fo W452 F_c1_drawnMatches), (vo V_c2 W452), (vo V_c3 W452), (vo V_c4 W452), (xw W452 E_c5), (fo W452 F_c5_wins), (fo W452 F_c5_draws), (fo W452 F_c5_losses), (fo W452 F_c5_matches), (fo W452 F_c5_drawnMatches), (vo V_c6 W452), (vo V_c7 W452), (vo V_c8 W452), (xw W452 E_c9), (fo W452 F_c9_modCount), (fo W452 F_c9_elementData), (fo W452 F_c9_s), (xw W452 E_e0_), (xw W452 E_c10), (vo V_c10 W452), O_c10, (xw W452 E_e1_), (xw W452 E_c11), (Fld.same W452 F_c11_modCount), F_c11_elementData, F_c11_s, (xw W452 E_e2_), g_c1, lt_c1_c2, lt_c2_c3, lt_c3_c4, lt_c4_c5, lt_c5_c6, lt_c6_c7, lt_c7_c8, lt_c8_c9, lt_c9_c10, lt_c10_c11, od_s_WIN, od_s_LOSS, od_s_DRAW, od_s_SW, od_s_EM, od_e0_, od_e1_, od_e2_⟩
  replace E_c11 := (xw W452 E_c11)
  refine pV X454 hx hZ hO (by rw [hml]; rfl) (w60 hw) (w61 hw) (w62 hw) (w22 hw) (w23 hw) (w64 hw) e454 E_c11 (argsL := [(.ref e2_), (.ref s_EM), (.int 0)]) (rest := []) (m542 l Z a0 hw [] h452 n0 s_WIN s_LOSS s_DRAW s_SW s_EM e0_ e1_ e2_ c1 c2 c3 c4 c5 c6 c7 c8 c9 c10 c11 k901 k902 kc1 kc2 kc3 kc4 kc5 kc6 kc7 P545) (lenOf pd7 rfl) (hb Y d7_20) fun T455 L455 v455 X455 hQ455 => ?_
  obtain ⟨kb543, b544, rfl, N455q, P455⟩ := hQ455
  obtain ⟨S_WIN, S_LOSS, S_DRAW, S__SwitchMap_com_example_g, S_DEFAULTCAPACITY_EMPTY_EL, E_s_WIN, F_s_WIN_ordinal, E_s_LOSS, F_s_LOSS_ordinal, E_s_DRAW, F_s_DRAW_ordinal, V_s_SW, V_s_EM, E_c1, F_c1_wins, F_c1_draws, F_c1_losses, F_c1_matches, F_c1_drawnMatches, V_c2, V_c3, V_c4, E_c5, F_c5_wins, F_c5_draws, F_c5_losses, F_c5_matches, F_c5_drawnMatches, V_c6, V_c7, V_c8, E_c9, F_c9_modCount, F_c9_elementData, F_c9_s, E_e0_, E_c10, V_c10, O_c10, E_e1_, E_c11, F_c11_modCount, F_c11_elementData, F_c11_s, E_e2_, E_b544, V_b544, O_b544, g_c1, lt_c1_c2, lt_c2_c3, lt_c3_c4, lt_c4_c5, lt_c5_c6, lt_c6_c7, lt_c7_c8, lt_c8_c9, lt_c9_c10, lt_c10_c11, lt_c11_b544, od_s_WIN, od_s_LOSS, od_s_DRAW, od_s_SW, od_s_EM, od_e0_, od_e1_, od_e2_⟩ := id P455
  have N455 := Fr.app N452x N455q
  refine iK X455 hx (z := 1) (hb Y d7_23) ?_
  exact f_ret X455 hx hlk (i := .ireturn) hret rfl (Or.inl ⟨rfl, Or.inr (Or.inl rfl), _, rfl⟩) (hb Y d7_24) (QQ := (Qm546 Z n0 s_WIN s_LOSS s_DRAW s_SW s_EM e0_ e1_ e2_ c1 c2 c3 c4 c5 c6 c7 c8 c9 c10 c11 k901 k902 kc1 kc2 kc3 kc4 kc5 kc6 kc7)) ⟨kb543, b544, rfl, N455, S_WIN, S_LOSS, S_DRAW, S__SwitchMap_com_example_g, S_DEFAULTCAPACITY_EMPTY_EL, E_s_WIN, F_s_WIN_ordinal, E_s_LOSS, F_s_LOSS_ordinal, E_s_DRAW, F_s_DRAW_ordinal, V_s_SW, V_s_EM, E_c1, F_c1_wins, F_c1_draws, F_c1_losses, F_c1_matches, F_c1_drawnMatches, V_c2, V_c3, V_c4, E_c5, F_c5_wins, F_c5_draws, F_c5_losses, F_c5_matches, F_c5_drawnMatches, V_c6, V_c7, V_c8, E_c9, F_c9_modCount, F_c9_elementData, F_c9_s, E_e0_, E_c10, V_c10, O_c10, E_e1_, E_c11, F_c11_modCount, F_c11_elementData, F_c11_s, E_e2_, E_b544, V_b544, O_b544, g_c1, lt_c1_c2, lt_c2_c3, lt_c3_c4, lt_c4_c5, lt_c5_c6, lt_c6_c7, lt_c7_c8, lt_c8_c9, lt_c9_c10, lt_c10_c11, lt_c11_b544, od_s_WIN, od_s_LOSS, od_s_DRAW, od_s_SW, od_s_EM, od_e0_, od_e1_, od_e2_⟩ (by decide) (by decide)
def St24 (Z : State) (h : Heap) (n0 : Nat) (s_WIN : Nat) (s_LOSS : Nat) (s_DRAW : Nat) (s_SW : Nat) (s_EM : Nat) (e0_ : Nat) (e1_ : Nat) (e2_ : Nat) (e3_ : Nat) (c1 : Nat) (c2 : Nat) (c3 : Nat) (c4 : Nat) (c5 : Nat) (c6 : Nat) (c7 : Nat) (c8 : Nat) (c9 : Nat) (c10 : Nat) (c11 : Nat) (c12 : Nat) (k901 : ClassId) (k902 : ClassId) (kc1 : ClassId) (kc2 : ClassId) (kc3 : ClassId) (kc4 : ClassId) (kc5 : ClassId) (kc6 : ClassId) (kc7 : ClassId) (kc8 : ClassId) : Prop :=
  Sta Z h cR "WIN" "Lcom/example/gamesmith/gamesmith/game/Result;" (.ref s_WIN) ∧
  Sta Z h cR "LOSS" "Lcom/example/gamesmith/gamesmith/game/Result;" (.ref s_LOSS) ∧
  Sta Z h cR "DRAW" "Lcom/example/gamesmith/gamesmith/game/Result;" (.ref s_DRAW) ∧
  Sta Z h "com/example/gamesmith/gamesmith/arena/Tally$1" "$SwitchMap$com$example$gamesmith$gamesmith$game$Result" "[I" (.ref s_SW) ∧
  Sta Z h cA "DEFAULTCAPACITY_EMPTY_ELEMENTDATA" "[Ljava/lang/Object;" (.ref s_EM) ∧
  Exa Z h s_WIN cR ∧
  Fld Z h s_WIN "java/lang/Enum" "ordinal" "I" (.int 0) ∧
  Exa Z h s_LOSS cR ∧
  Fld Z h s_LOSS "java/lang/Enum" "ordinal" "I" (.int 1) ∧
  Exa Z h s_DRAW cR ∧
  Fld Z h s_DRAW "java/lang/Enum" "ordinal" "I" (.int 2) ∧
  Arv Z h s_SW k901 .int 3 [(.int 1), (.int 3), (.int 2)] (.int 0) ∧
  Arv Z h s_EM k902 (.object "java/lang/Object") 0 [] .null ∧
  Exa Z h c1 cT ∧
  Fld Z h c1 cT "wins" "[I" (.ref c2) ∧
  Fld Z h c1 cT "draws" "[I" (.ref c3) ∧
  Fld Z h c1 cT "losses" "[I" (.ref c4) ∧
  Fld Z h c1 cT "matches" "I" (.int 0) ∧
  Fld Z h c1 cT "drawnMatches" "I" (.int 0) ∧
  Arv Z h c2 kc1 .int 2 [(.int 0), (.int 0)] (.int 0) ∧
  Arv Z h c3 kc2 .int 2 [(.int 0), (.int 0)] (.int 0) ∧
  Arv Z h c4 kc3 .int 2 [(.int 0), (.int 0)] (.int 0) ∧
  Exa Z h c5 cT ∧
  Fld Z h c5 cT "wins" "[I" (.ref c6) ∧
  Fld Z h c5 cT "draws" "[I" (.ref c7) ∧
  Fld Z h c5 cT "losses" "[I" (.ref c8) ∧
  Fld Z h c5 cT "matches" "I" (.int 0) ∧
  Fld Z h c5 cT "drawnMatches" "I" (.int 0) ∧
  Arv Z h c6 kc4 .int 2 [(.int 0), (.int 0)] (.int 0) ∧
  Arv Z h c7 kc5 .int 2 [(.int 0), (.int 0)] (.int 0) ∧
  Arv Z h c8 kc6 .int 2 [(.int 0), (.int 0)] (.int 0) ∧
  Exa Z h c9 cA ∧
  Fld Z h c9 "java/util/AbstractList" "modCount" "I" (.int 2) ∧
  Fld Z h c9 cA "elementData" "[Ljava/lang/Object;" (.ref c10) ∧
  Fld Z h c9 cA "size" "I" (.int 2) ∧
  Exa Z h e0_ cR ∧
  Exa Z h c10 "[Ljava/lang/Object;" ∧
  Arv Z h c10 kc7 (.object "java/lang/Object") 10 [(.ref e0_), (.ref e1_), .null, .null, .null, .null, .null, .null, .null, .null] .null ∧
  Ovr Z kc7 "java/lang/Object" ∧
  Exa Z h e1_ cR ∧
  Exa Z h c11 cA ∧
  Fld Z h c11 "java/util/AbstractList" "modCount" "I" (.int 2) ∧
  Fld Z h c11 cA "elementData" "[Ljava/lang/Object;" (.ref c12) ∧
  Fld Z h c11 cA "size" "I" (.int 1) ∧
  Exa Z h e2_ cR ∧
  Exa Z h c12 "[Ljava/lang/Object;" ∧
  Arv Z h c12 kc8 (.object "java/lang/Object") 10 [(.ref e2_), .null, .null, .null, .null, .null, .null, .null, .null, .null] .null ∧
  Ovr Z kc8 "java/lang/Object" ∧
  Exa Z h e3_ cR ∧
  n0 ≤ c1 ∧
  c1 < c2 ∧
  c2 < c3 ∧
  c3 < c4 ∧
  c4 < c5 ∧
  c5 < c6 ∧
  c6 < c7 ∧
  c7 < c8 ∧
  c8 < c9 ∧
  c9 < c10 ∧
  c10 < c11 ∧
  c11 < c12 ∧
  s_WIN < n0 ∧
  s_LOSS < n0 ∧
  s_DRAW < n0 ∧
  s_SW < n0 ∧
  s_EM < n0 ∧
  e0_ < n0 ∧
  e1_ < n0 ∧
  e2_ < n0 ∧
  e3_ < n0
def St25 (Z : State) (h : Heap) (n0 : Nat) (s_WIN : Nat) (s_LOSS : Nat) (s_DRAW : Nat) (s_SW : Nat) (s_EM : Nat) (e0_ : Nat) (e1_ : Nat) (e2_ : Nat) (e3_ : Nat) (c1 : Nat) (c2 : Nat) (c3 : Nat) (c4 : Nat) (c5 : Nat) (c6 : Nat) (c7 : Nat) (c8 : Nat) (c9 : Nat) (c10 : Nat) (c11 : Nat) (c12 : Nat) (k901 : ClassId) (k902 : ClassId) (kc1 : ClassId) (kc2 : ClassId) (kc3 : ClassId) (kc4 : ClassId) (kc5 : ClassId) (kc6 : ClassId) (kc7 : ClassId) (kc8 : ClassId) : Prop :=
  Sta Z h cR "WIN" "Lcom/example/gamesmith/gamesmith/game/Result;" (.ref s_WIN) ∧
  Sta Z h cR "LOSS" "Lcom/example/gamesmith/gamesmith/game/Result;" (.ref s_LOSS) ∧
  Sta Z h cR "DRAW" "Lcom/example/gamesmith/gamesmith/game/Result;" (.ref s_DRAW) ∧
  Sta Z h "com/example/gamesmith/gamesmith/arena/Tally$1" "$SwitchMap$com$example$gamesmith$gamesmith$game$Result" "[I" (.ref s_SW) ∧
  Sta Z h cA "DEFAULTCAPACITY_EMPTY_ELEMENTDATA" "[Ljava/lang/Object;" (.ref s_EM) ∧
  Exa Z h s_WIN cR ∧
  Fld Z h s_WIN "java/lang/Enum" "ordinal" "I" (.int 0) ∧
  Exa Z h s_LOSS cR ∧
  Fld Z h s_LOSS "java/lang/Enum" "ordinal" "I" (.int 1) ∧
  Exa Z h s_DRAW cR ∧
  Fld Z h s_DRAW "java/lang/Enum" "ordinal" "I" (.int 2) ∧
  Arv Z h s_SW k901 .int 3 [(.int 1), (.int 3), (.int 2)] (.int 0) ∧
  Arv Z h s_EM k902 (.object "java/lang/Object") 0 [] .null ∧
  Exa Z h c1 cT ∧
  Fld Z h c1 cT "wins" "[I" (.ref c2) ∧
  Fld Z h c1 cT "draws" "[I" (.ref c3) ∧
  Fld Z h c1 cT "losses" "[I" (.ref c4) ∧
  Fld Z h c1 cT "matches" "I" (.int 0) ∧
  Fld Z h c1 cT "drawnMatches" "I" (.int 0) ∧
  Arv Z h c2 kc1 .int 2 [(.int 0), (.int 0)] (.int 0) ∧
  Arv Z h c3 kc2 .int 2 [(.int 0), (.int 0)] (.int 0) ∧
  Arv Z h c4 kc3 .int 2 [(.int 0), (.int 0)] (.int 0) ∧
  Exa Z h c5 cT ∧
  Fld Z h c5 cT "wins" "[I" (.ref c6) ∧
  Fld Z h c5 cT "draws" "[I" (.ref c7) ∧
  Fld Z h c5 cT "losses" "[I" (.ref c8) ∧
  Fld Z h c5 cT "matches" "I" (.int 0) ∧
  Fld Z h c5 cT "drawnMatches" "I" (.int 0) ∧
  Arv Z h c6 kc4 .int 2 [(.int 0), (.int 0)] (.int 0) ∧
  Arv Z h c7 kc5 .int 2 [(.int 0), (.int 0)] (.int 0) ∧
  Arv Z h c8 kc6 .int 2 [(.int 0), (.int 0)] (.int 0) ∧
  Exa Z h c9 cA ∧
  Fld Z h c9 "java/util/AbstractList" "modCount" "I" (.int 2) ∧
  Fld Z h c9 cA "elementData" "[Ljava/lang/Object;" (.ref c10) ∧
  Fld Z h c9 cA "size" "I" (.int 2) ∧
  Exa Z h e0_ cR ∧
  Exa Z h c10 "[Ljava/lang/Object;" ∧
  Arv Z h c10 kc7 (.object "java/lang/Object") 10 [(.ref e0_), (.ref e1_), .null, .null, .null, .null, .null, .null, .null, .null] .null ∧
  Ovr Z kc7 "java/lang/Object" ∧
  Exa Z h e1_ cR ∧
  Exa Z h c11 cA ∧
  Fld Z h c11 "java/util/AbstractList" "modCount" "I" (.int 2) ∧
  Fld Z h c11 cA "elementData" "[Ljava/lang/Object;" (.ref c12) ∧
  Fld Z h c11 cA "size" "I" (.int 2) ∧
  Exa Z h e2_ cR ∧
  Exa Z h c12 "[Ljava/lang/Object;" ∧
  Arv Z h c12 kc8 (.object "java/lang/Object") 10 [(.ref e2_), (.ref e3_), .null, .null, .null, .null, .null, .null, .null, .null] .null ∧
  Ovr Z kc8 "java/lang/Object" ∧
  Exa Z h e3_ cR ∧
  n0 ≤ c1 ∧
  c1 < c2 ∧
  c2 < c3 ∧
  c3 < c4 ∧
  c4 < c5 ∧
  c5 < c6 ∧
  c6 < c7 ∧
  c7 < c8 ∧
  c8 < c9 ∧
  c9 < c10 ∧
  c10 < c11 ∧
  c11 < c12 ∧
  s_WIN < n0 ∧
  s_LOSS < n0 ∧
  s_DRAW < n0 ∧
  s_SW < n0 ∧
  s_EM < n0 ∧
  e0_ < n0 ∧
  e1_ < n0 ∧
  e2_ < n0 ∧
  e3_ < n0
def Qm572 (Z : State) (n0 : Nat) (s_WIN : Nat) (s_LOSS : Nat) (s_DRAW : Nat) (s_SW : Nat) (s_EM : Nat) (e0_ : Nat) (e1_ : Nat) (e2_ : Nat) (e3_ : Nat) (c1 : Nat) (c2 : Nat) (c3 : Nat) (c4 : Nat) (c5 : Nat) (c6 : Nat) (c7 : Nat) (c8 : Nat) (c9 : Nat) (c10 : Nat) (c11 : Nat) (c12 : Nat) (k901 : ClassId) (k902 : ClassId) (kc1 : ClassId) (kc2 : ClassId) (kc3 : ClassId) (kc4 : ClassId) (kc5 : ClassId) (kc6 : ClassId) (kc7 : ClassId) (kc8 : ClassId) (v : Option Value) (h : Heap) (L : List Loc) : Prop := v = none ∧ Fr n0 L ∧ St25 Z h n0 s_WIN s_LOSS s_DRAW s_SW s_EM e0_ e1_ e2_ e3_ c1 c2 c3 c4 c5 c6 c7 c8 c9 c10 c11 c12 k901 k902 kc1 kc2 kc3 kc4 kc5 kc6 kc7 kc8
theorem m572 (l : Launch) (Z : State) (a0 : Array Value) (hw : HW a0 Z) (ws : List Jvm.Cond) (h0 : Heap) (n0 : Nat) (s_WIN : Nat) (s_LOSS : Nat) (s_DRAW : Nat) (s_SW : Nat) (s_EM : Nat) (e0_ : Nat) (e1_ : Nat) (e2_ : Nat) (e3_ : Nat) (c1 : Nat) (c2 : Nat) (c3 : Nat) (c4 : Nat) (c5 : Nat) (c6 : Nat) (c7 : Nat) (c8 : Nat) (c9 : Nat) (c10 : Nat) (c11 : Nat) (c12 : Nat) (k901 : ClassId) (k902 : ClassId) (kc1 : ClassId) (kc2 : ClassId) (kc3 : ClassId) (kc4 : ClassId) (kc5 : ClassId) (kc6 : ClassId) (kc7 : ClassId) (kc8 : ClassId) (P : St24 Z h0 n0 s_WIN s_LOSS s_DRAW s_SW s_EM e0_ e1_ e2_ e3_ c1 c2 c3 c4 c5 c6 c7 c8 c9 c10 c11 c12 k901 k902 kc1 kc2 kc3 kc4 kc5 kc6 kc7 kc8) :
    MC l Z y8 jdk_38_method_24_code 4 none ws rm_0_0_0_0 #[(.ref c11), (.ref e3_), (.ref c12), (.int 1)] h0 (Qm572 Z n0 s_WIN s_LOSS s_DRAW s_SW s_EM e0_ e1_ e2_ e3_ c1 c2 c3 c4 c5 c6 c7 c8 c9 c10 c11 c12 k901 k902 kc1 kc2 kc3 kc4 kc5 kc6 kc7 kc8) := by
  obtain ⟨S_WIN, S_LOSS, S_DRAW, S__SwitchMap_com_example_g, S_DEFAULTCAPACITY_EMPTY_EL, E_s_WIN, F_s_WIN_ordinal, E_s_LOSS, F_s_LOSS_ordinal, E_s_DRAW, F_s_DRAW_ordinal, V_s_SW, V_s_EM, E_c1, F_c1_wins, F_c1_draws, F_c1_losses, F_c1_matches, F_c1_drawnMatches, V_c2, V_c3, V_c4, E_c5, F_c5_wins, F_c5_draws, F_c5_losses, F_c5_matches, F_c5_drawnMatches, V_c6, V_c7, V_c8, E_c9, F_c9_modCount, F_c9_elementData, F_c9_s, E_e0_, E_c10, V_c10, O_c10, E_e1_, E_c11, F_c11_modCount, F_c11_elementData, F_c11_s, E_e2_, E_c12, V_c12, O_c12, E_e3_, g_c1, lt_c1_c2, lt_c2_c3, lt_c3_c4, lt_c4_c5, lt_c5_c6, lt_c6_c7, lt_c7_c8, lt_c8_c9, lt_c9_c10, lt_c10_c11, lt_c11_c12, od_s_WIN, od_s_LOSS, od_s_DRAW, od_s_SW, od_s_EM, od_e0_, od_e1_, od_e2_, od_e3_⟩ := id P
  refine own_met (plainFor_of_name pn8) fun p e s m below meth c s₁ X0 hx hZ Y hml hO hnm hlk hret e0 => f_cast (f' := mkF m 0 #[(rv c11), (rv e3_), (rv c12), (iv 1)] []) (by first | (simp [entryFrame, mkF, argsToLocals, Value.category]; done) | rfl) ?_
  have N0 := Fr.nil n0
  refine iN X0 hx (hb Y d8_0) rfl <| aN X0 hx (hb Y d8_1) rfl rfl <| f_len X0 hx hZ e0 V_c12 (hb Y d8_2) <| cY X0 hx (pc := 3) 11 (hb Y d8_3) <| aN X0 hx (hb Y d8_11) rfl rfl <| iN X0 hx (hb Y d8_12) rfl <| aN X0 hx (hb Y d8_13) rfl rfl <| f_ast X0 hx hZ e0 V_c12 rfl (own_stoV V_c12 O_c12 (Ins.of_exa E_e3_ (w81 hw))) rfl 1 (hb Y d8_14) fun T570 h570 X570 e570 W570 V570 => ?_
  have N570x := Fr.snoc X570 N0 (by omega : n0 ≤ c12)
  refine aN X570 hx (hb Y d8_15) rfl rfl <| iN X570 hx (hb Y d8_16) rfl <| iK X570 hx (z := 1) (hb Y d8_17) <| iA X570 hx (z := 2) (hb Y d8_18) ?_
  replace F_c11_s := (fo W570 F_c11_s)
  replace E_c11 := (xw W570 E_c11)
  refine f_putF X570 hx hZ hO (w58 hw) Via.refl e570 F_c11_s E_c11 (Or.inl (w59 hw)) (w22 hw) (ty := .int) (by decide) rfl rfl (hb Y d8_19) fun T571 h571 X571 e571 W571 => ?_
  have N571x := Fr.snoc X571 N570x (by omega : n0 ≤ c11)
  exact f_ret0 X571 hx hlk hret (hb Y d8_22) (QQ := (Qm572 Z n0 s_WIN s_LOSS s_DRAW s_SW s_EM e0_ e1_ e2_ e3_ c1 c2 c3 c4 c5 c6 c7 c8 c9 c10 c11 c12 k901 k902 kc1 kc2 kc3 kc4 kc5 kc6 kc7 kc8)) (by rw [e571]; exact ⟨rfl, N571x, (Sta.wr W571 (Sta.wr W570 S_WIN)), (Sta.wr W571 (Sta.wr W570 S_LOSS)), (Sta.wr W571 (Sta.wr W570 S_DRAW)), (Sta.wr W571 (Sta.wr W570 S__SwitchMap_com_example_g)), (Sta.wr W571 (Sta.wr W570 S_DEFAULTCAPACITY_EMPTY_EL)), (xw W571 (xw W570 E_s_WIN)), (fo W571 (fo W570 F_s_WIN_ordinal)), (xw W571 (xw W570 E_s_LOSS)), (fo W571 (fo W570 F_s_LOSS_ordinal)), (xw W571 (xw W570 E_s_DRAW)), (fo W571 (fo W570 F_s_DRAW_ordinal)), (vo (vo V_s_SW W570) W571), (vo (vo V_s_EM W570) W571), (xw W571 (xw W570 E_c1)), (fo W571 (fo W570 F_c1_wins)), (fo W571 (fo W570 F_c1_draws)), (fo W571 (fo W570 F_c1_losses)), (fo W571 (fo W570 F_c1_matches)), (fo W571 (fo W570 F_c1_drawnMatches)), (vo (vo V_c2 W570) W571), (vo (vo V_c3 W570) W571), (vo (vo V_c4 W570) W571), (xw W571 (xw W570 E_c5)), (fo W571 (fo W570 F_c5_wins)), (fo W571 (fo W570 F_c5_draws)), (fo W571 (fo W570 F_c5_losses)), (fo W571 (fo W570 F_c5_matches)), (fo W571 (fo W570 F_c5_drawnMatches)), (vo (vo V_c6 W570) W571), (vo (vo V_c7 W570) W571), (vo (vo V_c8 W570) W571), (xw W571 (xw W570 E_c9)), (fo W571 (fo W570 F_c9_modCount)), (fo W571 (fo W570 F_c9_elementData)), (fo W571 (fo W570 F_c9_s)), (xw W571 (xw W570 E_e0_)), (xw W571 (xw W570 E_c10)), (vo (vo V_c10 W570) W571), O_c10, (xw W571 (xw W570 E_e1_)), (xw W571 E_c11), (Fld.other W571 (fo W570 F_c11_modCount) (Or.inr (slot_ne (Or.inl (w41 hw)) (Or.inl (w59 hw)) (by decide) (t := .int) (t' := .int) (by decide) (by decide)))), (Fld.other W571 (fo W570 F_c11_elementData) (Or.inr (slot_ne (Or.inl (w44 hw)) (Or.inl (w59 hw)) (by decide) (t := (.array (.object "java/lang/Object"))) (t' := .int) (by decide) (by decide)))), (Fld.same W571 F_c11_s), (xw W571 (xw W570 E_e2_)), (xw W571 (xw W570 E_c12)), (vo V570 W571), O_c12, (xw W571 (xw W570 E_e3_)), g_c1, lt_c1_c2, lt_c2_c3, lt_c3_c4, lt_c4_c5, lt_c5_c6, lt_c6_c7, lt_c7_c8, lt_c8_c9, lt_c9_c10, lt_c10_c11, lt_c11_c12, od_s_WIN, od_s_LOSS, od_s_DRAW, od_s_SW, od_s_EM, od_e0_, od_e1_, od_e2_, od_e3_⟩) (by decide) (by decide)
def St26 (Z : State) (h : Heap) (n0 : Nat) (s_WIN : Nat) (s_LOSS : Nat) (s_DRAW : Nat) (s_SW : Nat) (s_EM : Nat) (e0_ : Nat) (e1_ : Nat) (e2_ : Nat) (e3_ : Nat) (c1 : Nat) (c2 : Nat) (c3 : Nat) (c4 : Nat) (c5 : Nat) (c6 : Nat) (c7 : Nat) (c8 : Nat) (c9 : Nat) (c10 : Nat) (c11 : Nat) (c12 : Nat) (k901 : ClassId) (k902 : ClassId) (kc1 : ClassId) (kc2 : ClassId) (kc3 : ClassId) (kc4 : ClassId) (kc5 : ClassId) (kc6 : ClassId) (kc7 : ClassId) (kc8 : ClassId) : Prop :=
  Sta Z h cR "WIN" "Lcom/example/gamesmith/gamesmith/game/Result;" (.ref s_WIN) ∧
  Sta Z h cR "LOSS" "Lcom/example/gamesmith/gamesmith/game/Result;" (.ref s_LOSS) ∧
  Sta Z h cR "DRAW" "Lcom/example/gamesmith/gamesmith/game/Result;" (.ref s_DRAW) ∧
  Sta Z h "com/example/gamesmith/gamesmith/arena/Tally$1" "$SwitchMap$com$example$gamesmith$gamesmith$game$Result" "[I" (.ref s_SW) ∧
  Sta Z h cA "DEFAULTCAPACITY_EMPTY_ELEMENTDATA" "[Ljava/lang/Object;" (.ref s_EM) ∧
  Exa Z h s_WIN cR ∧
  Fld Z h s_WIN "java/lang/Enum" "ordinal" "I" (.int 0) ∧
  Exa Z h s_LOSS cR ∧
  Fld Z h s_LOSS "java/lang/Enum" "ordinal" "I" (.int 1) ∧
  Exa Z h s_DRAW cR ∧
  Fld Z h s_DRAW "java/lang/Enum" "ordinal" "I" (.int 2) ∧
  Arv Z h s_SW k901 .int 3 [(.int 1), (.int 3), (.int 2)] (.int 0) ∧
  Arv Z h s_EM k902 (.object "java/lang/Object") 0 [] .null ∧
  Exa Z h c1 cT ∧
  Fld Z h c1 cT "wins" "[I" (.ref c2) ∧
  Fld Z h c1 cT "draws" "[I" (.ref c3) ∧
  Fld Z h c1 cT "losses" "[I" (.ref c4) ∧
  Fld Z h c1 cT "matches" "I" (.int 0) ∧
  Fld Z h c1 cT "drawnMatches" "I" (.int 0) ∧
  Arv Z h c2 kc1 .int 2 [(.int 0), (.int 0)] (.int 0) ∧
  Arv Z h c3 kc2 .int 2 [(.int 0), (.int 0)] (.int 0) ∧
  Arv Z h c4 kc3 .int 2 [(.int 0), (.int 0)] (.int 0) ∧
  Exa Z h c5 cT ∧
  Fld Z h c5 cT "wins" "[I" (.ref c6) ∧
  Fld Z h c5 cT "draws" "[I" (.ref c7) ∧
  Fld Z h c5 cT "losses" "[I" (.ref c8) ∧
  Fld Z h c5 cT "matches" "I" (.int 0) ∧
  Fld Z h c5 cT "drawnMatches" "I" (.int 0) ∧
  Arv Z h c6 kc4 .int 2 [(.int 0), (.int 0)] (.int 0) ∧
  Arv Z h c7 kc5 .int 2 [(.int 0), (.int 0)] (.int 0) ∧
  Arv Z h c8 kc6 .int 2 [(.int 0), (.int 0)] (.int 0) ∧
  Exa Z h c9 cA ∧
  Fld Z h c9 "java/util/AbstractList" "modCount" "I" (.int 2) ∧
  Fld Z h c9 cA "elementData" "[Ljava/lang/Object;" (.ref c10) ∧
  Fld Z h c9 cA "size" "I" (.int 2) ∧
  Exa Z h e0_ cR ∧
  Exa Z h c10 "[Ljava/lang/Object;" ∧
  Arv Z h c10 kc7 (.object "java/lang/Object") 10 [(.ref e0_), (.ref e1_), .null, .null, .null, .null, .null, .null, .null, .null] .null ∧
  Ovr Z kc7 "java/lang/Object" ∧
  Exa Z h e1_ cR ∧
  Exa Z h c11 cA ∧
  Fld Z h c11 "java/util/AbstractList" "modCount" "I" (.int 1) ∧
  Fld Z h c11 cA "elementData" "[Ljava/lang/Object;" (.ref c12) ∧
  Fld Z h c11 cA "size" "I" (.int 1) ∧
  Exa Z h e2_ cR ∧
  Exa Z h c12 "[Ljava/lang/Object;" ∧
  Arv Z h c12 kc8 (.object "java/lang/Object") 10 [(.ref e2_), .null, .null, .null, .null, .null, .null, .null, .null, .null] .null ∧
  Ovr Z kc8 "java/lang/Object" ∧
  Exa Z h e3_ cR ∧
  n0 ≤ c1 ∧
  c1 < c2 ∧
  c2 < c3 ∧
  c3 < c4 ∧
  c4 < c5 ∧
  c5 < c6 ∧
  c6 < c7 ∧
  c7 < c8 ∧
  c8 < c9 ∧
  c9 < c10 ∧
  c10 < c11 ∧
  c11 < c12 ∧
  s_WIN < n0 ∧
  s_LOSS < n0 ∧
  s_DRAW < n0 ∧
  s_SW < n0 ∧
  s_EM < n0 ∧
  e0_ < n0 ∧
  e1_ < n0 ∧
  e2_ < n0 ∧
  e3_ < n0
def Qm574 (Z : State) (n0 : Nat) (s_WIN : Nat) (s_LOSS : Nat) (s_DRAW : Nat) (s_SW : Nat) (s_EM : Nat) (e0_ : Nat) (e1_ : Nat) (e2_ : Nat) (e3_ : Nat) (c1 : Nat) (c2 : Nat) (c3 : Nat) (c4 : Nat) (c5 : Nat) (c6 : Nat) (c7 : Nat) (c8 : Nat) (c9 : Nat) (c10 : Nat) (c11 : Nat) (c12 : Nat) (k901 : ClassId) (k902 : ClassId) (kc1 : ClassId) (kc2 : ClassId) (kc3 : ClassId) (kc4 : ClassId) (kc5 : ClassId) (kc6 : ClassId) (kc7 : ClassId) (kc8 : ClassId) (v : Option Value) (h : Heap) (L : List Loc) : Prop := v = some (.int 1) ∧ Fr n0 L ∧ St25 Z h n0 s_WIN s_LOSS s_DRAW s_SW s_EM e0_ e1_ e2_ e3_ c1 c2 c3 c4 c5 c6 c7 c8 c9 c10 c11 c12 k901 k902 kc1 kc2 kc3 kc4 kc5 kc6 kc7 kc8
theorem m574 (l : Launch) (Z : State) (a0 : Array Value) (hw : HW a0 Z) (ws : List Jvm.Cond) (h0 : Heap) (n0 : Nat) (s_WIN : Nat) (s_LOSS : Nat) (s_DRAW : Nat) (s_SW : Nat) (s_EM : Nat) (e0_ : Nat) (e1_ : Nat) (e2_ : Nat) (e3_ : Nat) (c1 : Nat) (c2 : Nat) (c3 : Nat) (c4 : Nat) (c5 : Nat) (c6 : Nat) (c7 : Nat) (c8 : Nat) (c9 : Nat) (c10 : Nat) (c11 : Nat) (c12 : Nat) (k901 : ClassId) (k902 : ClassId) (kc1 : ClassId) (kc2 : ClassId) (kc3 : ClassId) (kc4 : ClassId) (kc5 : ClassId) (kc6 : ClassId) (kc7 : ClassId) (kc8 : ClassId) (P : St26 Z h0 n0 s_WIN s_LOSS s_DRAW s_SW s_EM e0_ e1_ e2_ e3_ c1 c2 c3 c4 c5 c6 c7 c8 c9 c10 c11 c12 k901 k902 kc1 kc2 kc3 kc4 kc5 kc6 kc7 kc8) :
    MC l Z y7 jdk_38_method_25_code 2 (some .boolean) ws rm_1_0_0_15 #[(.ref c11), (.ref e3_)] h0 (Qm574 Z n0 s_WIN s_LOSS s_DRAW s_SW s_EM e0_ e1_ e2_ e3_ c1 c2 c3 c4 c5 c6 c7 c8 c9 c10 c11 c12 k901 k902 kc1 kc2 kc3 kc4 kc5 kc6 kc7 kc8) := by
  obtain ⟨S_WIN, S_LOSS, S_DRAW, S__SwitchMap_com_example_g, S_DEFAULTCAPACITY_EMPTY_EL, E_s_WIN, F_s_WIN_ordinal, E_s_LOSS, F_s_LOSS_ordinal, E_s_DRAW, F_s_DRAW_ordinal, V_s_SW, V_s_EM, E_c1, F_c1_wins, F_c1_draws, F_c1_losses, F_c1_matches, F_c1_drawnMatches, V_c2, V_c3, V_c4, E_c5, F_c5_wins, F_c5_draws, F_c5_losses, F_c5_matches, F_c5_drawnMatches, V_c6, V_c7, V_c8, E_c9, F_c9_modCount, F_c9_elementData, F_c9_s, E_e0_, E_c10, V_c10, O_c10, E_e1_, E_c11, F_c11_modCount, F_c11_elementData, F_c11_s, E_e2_, E_c12, V_c12, O_c12, E_e3_, g_c1, lt_c1_c2, lt_c2_c3, lt_c3_c4, lt_c4_c5, lt_c5_c6, lt_c6_c7, lt_c7_c8, lt_c8_c9, lt_c9_c10, lt_c10_c11, lt_c11_c12, od_s_WIN, od_s_LOSS, od_s_DRAW, od_s_SW, od_s_EM, od_e0_, od_e1_, od_e2_, od_e3_⟩ := id P
  refine own_met (plainFor_of_name pn7) fun p e s m below meth c s₁ X0 hx hZ Y hml hO hnm hlk hret e0 => f_cast (f' := mkF m 0 #[(rv c11), (rv e3_)] []) (by first | (simp [entryFrame, mkF, argsToLocals, Value.category]; done) | rfl) ?_
  have N0 := Fr.nil n0
  refine aN X0 hx (hb Y d7_0) rfl rfl <| f_dup X0 hx (hb Y d7_1) rfl <| gF X0 hx hZ hO (w56 hw) (Via.of (w57 hw)) e0 F_c11_modCount (hb Y d7_2) fun T563 X563 e563 => ?_
  refine iK X563 hx (z := 1) (hb Y d7_5) <| iA X563 hx (z := 2) (hb Y d7_6) <| f_putF X563 hx hZ hO (w56 hw) (Via.of (w57 hw)) e563 F_c11_modCount E_c11 (Or.inl (w41 hw)) (w22 hw) (ty := .int) (by decide) rfl rfl (hb Y d7_7) fun T564 h564 X564 e564 W564 => ?_
  have N564x := Fr.snoc X564 N0 (by omega : n0 ≤ c11)
  refine aN X564 hx (hb Y d7_10) rfl rfl <| aN X564 hx (hb Y d7_11) rfl rfl <| aN X564 hx (hb Y d7_12) rfl rfl ?_
  replace F_c11_elementData := (Fld.other W564 F_c11_elementData (Or.inr (slot_ne (Or.inl (w44 hw)) (Or.inl (w41 hw)) (by decide) (t := (.array (.object "java/lang/Object"))) (t' := .int) (by decide) (by decide))))
  refine gF X564 hx hZ hO (w43 hw) Via.refl e564 F_c11_elementData (hb Y d7_13) fun T565 X565 e565 => ?_
  refine aN X565 hx (hb Y d7_16) rfl rfl ?_
  replace F_c11_s := (Fld.other W564 F_c11_s (Or.inr (slot_ne (Or.inl (w59 hw)) (Or.inl (w41 hw)) (by decide) (t := .int) (t' := .int) (by decide) (by decide))))
  refine gF X565 hx hZ hO (w58 hw) Via.refl e565 F_c11_s (hb Y d7_17) fun T566 X566 e566 => ?_
  have P573 : St24 Z h564 n0 s_WIN s_LOSS s_DRAW s_SW s_EM e0_ e1_ e2_ e3_ c1 c2 c3 c4 c5 c6 c7 c8 c9 c10 c11 c12 k901 k902 kc1 kc2 kc3 kc4 kc5 kc6 kc7 kc8 := ⟨(Sta.wr W564 S_WIN), (Sta.wr W564 S_LOSS), (Sta.wr W564 S_DRAW), (Sta.wr W564 S__SwitchMap_com_example_g), (Sta.wr W564 S_DEFAULTCAPACITY_EMPTY_EL), (xw W564 E_s_WIN), (fo W564 F_s_WIN_ordinal), (xw W564 E_s_LOSS), (fo W564 F_s_LOSS_ordinal), (xw W564 E_s_DRAW), (fo W564 F_s_DRAW_ordinal), (vo V_s_SW W564), (vo V_s_EM W564), (xw W564 E_c1), (fo W564 F_c1_wins), (fo W564 F_c1_draws), (fo W564 F_c1_losses), (fo W564 F_c1_matches), (fo W564 F_c1_drawnMatches), (vo V_c2 W564), (vo V_c3 W564), (vo V_c4 W564), (xw W564 E_c5), (fo W564 F_c5_wins), (fo W564 F_c5_draws), (fo W564 F_c5_losses), (fo W564 F_c5_matches), (fo W564 F_c5_drawnMatches), (vo V_c6 W564), (vo V_c7 W564), (vo V_c8 W564), (xw W564 E_c9), (fo W564 F_c9_modCount), (fo W564 F_c9_elementData), (fo W564 F_c9_s), (xw W564 E_e0_), (xw W564 E_c10), (vo V_c10 W564), O_c10, (xw W564 E_e1_), (xw W564 E_c11), (Fld.same W564 F_c11_modCount), F_c11_elementData, F_c11_s, (xw W564 E_e2_), (xw W564 E_c12), (vo V_c12 W564), O_c12, (xw W564 E_e3_), g_c1, lt_c1_c2, lt_c2_c3, lt_c3_c4, lt_c4_c5, lt_c5_c6, lt_c6_c7, lt_c7_c8, lt_c8_c9, lt_c9_c10, lt_c10_c11, lt_c11_c12, od_s_WIN, od_s_LOSS, od_s_DRAW, od_s_SW, od_s_EM, od_e0_, od_e1_, od_e2_, od_e3_⟩
  replace E_c11 := (xw W564 E_c11)
  refine pV X566 hx hZ hO (by rw [hml]; rfl) (w60 hw) (w61 hw) (w62 hw) (w22 hw) (w23 hw) (w64 hw) e566 E_c11 (argsL := [(.ref e3_), (.ref c12), (.int 1)]) (rest := []) (m572 l Z a0 hw [] h564 n0 s_WIN s_LOSS s_DRAW s_SW s_EM e0_ e1_ e2_ e3_ c1 c2 c3 c4 c5 c6 c7 c8 c9 c10 c11 c12 k901 k902 kc1 kc2 kc3 kc4 kc5 kc6 kc7 kc8 P573) (lenOf pd7 rfl) (hb Y d7_20) fun T567 L567 v567 X567 hQ567 => ?_
  obtain ⟨rfl, N567q, P567⟩ := hQ567
  obtain ⟨S_WIN, S_LOSS, S_DRAW, S__SwitchMap_com_example_g, S_DEFAULTCAPACITY_EMPTY_EL, E_s_WIN, F_s_WIN_ordinal, E_s_LOSS, F_s_LOSS_ordinal, E_s_DRAW, F_s_DRAW_ordinal, V_s_SW, V_s_EM, E_c1, F_c1_wins, F_c1_draws, F_c1_losses, F_c1_matches, F_c1_drawnMatches, V_c2, V_c3, V_c4, E_c5, F_c5_wins, F_c5_draws, F_c5_losses, F_c5_matches, F_c5_drawnMatches, V_c6, V_c7, V_c8, E_c9, F_c9_modCount, F_c9_elementData, F_c9_s, E_e0_, E_c10, V_c10, O_c10, E_e1_, E_c11, F_c11_modCount, F_c11_elementData, F_c11_s, E_e2_, E_c12, V_c12, O_c12, E_e3_, g_c1, lt_c1_c2, lt_c2_c3, lt_c3_c4, lt_c4_c5, lt_c5_c6, lt_c6_c7, lt_c7_c8, lt_c8_c9, lt_c9_c10, lt_c10_c11, lt_c11_c12, od_s_WIN, od_s_LOSS, od_s_DRAW, od_s_SW, od_s_EM, od_e0_, od_e1_, od_e2_, od_e3_⟩ := id P567
  have N567 := Fr.app N564x N567q
  refine iK X567 hx (z := 1) (hb Y d7_23) ?_
  exact f_ret X567 hx hlk (i := .ireturn) hret rfl (Or.inl ⟨rfl, Or.inr (Or.inl rfl), _, rfl⟩) (hb Y d7_24) (QQ := (Qm574 Z n0 s_WIN s_LOSS s_DRAW s_SW s_EM e0_ e1_ e2_ e3_ c1 c2 c3 c4 c5 c6 c7 c8 c9 c10 c11 c12 k901 k902 kc1 kc2 kc3 kc4 kc5 kc6 kc7 kc8)) ⟨rfl, N567, S_WIN, S_LOSS, S_DRAW, S__SwitchMap_com_example_g, S_DEFAULTCAPACITY_EMPTY_EL, E_s_WIN, F_s_WIN_ordinal, E_s_LOSS, F_s_LOSS_ordinal, E_s_DRAW, F_s_DRAW_ordinal, V_s_SW, V_s_EM, E_c1, F_c1_wins, F_c1_draws, F_c1_losses, F_c1_matches, F_c1_drawnMatches, V_c2, V_c3, V_c4, E_c5, F_c5_wins, F_c5_draws, F_c5_losses, F_c5_matches, F_c5_drawnMatches, V_c6, V_c7, V_c8, E_c9, F_c9_modCount, F_c9_elementData, F_c9_s, E_e0_, E_c10, V_c10, O_c10, E_e1_, E_c11, F_c11_modCount, F_c11_elementData, F_c11_s, E_e2_, E_c12, V_c12, O_c12, E_e3_, g_c1, lt_c1_c2, lt_c2_c3, lt_c3_c4, lt_c4_c5, lt_c5_c6, lt_c6_c7, lt_c7_c8, lt_c8_c9, lt_c9_c10, lt_c10_c11, lt_c11_c12, od_s_WIN, od_s_LOSS, od_s_DRAW, od_s_SW, od_s_EM, od_e0_, od_e1_, od_e2_, od_e3_⟩ (by decide) (by decide)
def St27 (Z : State) (h : Heap) (n0 : Nat) (s_WIN : Nat) (s_LOSS : Nat) (s_DRAW : Nat) (s_SW : Nat) (s_EM : Nat) (e0_ : Nat) (e1_ : Nat) (e2_ : Nat) (e3_ : Nat) (c1 : Nat) (c2 : Nat) (c3 : Nat) (c4 : Nat) (c5 : Nat) (c6 : Nat) (c7 : Nat) (c8 : Nat) (c9 : Nat) (c10 : Nat) (c11 : Nat) (c12 : Nat) (k901 : ClassId) (k902 : ClassId) (kc1 : ClassId) (kc2 : ClassId) (kc3 : ClassId) (kc4 : ClassId) (kc5 : ClassId) (kc6 : ClassId) (kc7 : ClassId) (kc8 : ClassId) (n1_ : Int32) (n2_ : Int32) (n3_ : Int32) (n4_ : Int32) (n5_ : Int32) (n6_ : Int32) (n7_ : Int32) (n8_ : Int32) (n9_ : Int32) (n10_ : Int32) (n11_ : Int32) (n12_ : Int32) (n13_ : Int32) (n14_ : Int32) (n15_ : Int32) (n16_ : Int32) (v0_ : Int32) (v1_ : Int32) (v2_ : Int32) (v3_ : Int32) : Prop :=
  Sta Z h cR "WIN" "Lcom/example/gamesmith/gamesmith/game/Result;" (.ref s_WIN) ∧
  Sta Z h cR "LOSS" "Lcom/example/gamesmith/gamesmith/game/Result;" (.ref s_LOSS) ∧
  Sta Z h cR "DRAW" "Lcom/example/gamesmith/gamesmith/game/Result;" (.ref s_DRAW) ∧
  Sta Z h "com/example/gamesmith/gamesmith/arena/Tally$1" "$SwitchMap$com$example$gamesmith$gamesmith$game$Result" "[I" (.ref s_SW) ∧
  Sta Z h cA "DEFAULTCAPACITY_EMPTY_ELEMENTDATA" "[Ljava/lang/Object;" (.ref s_EM) ∧
  Exa Z h s_WIN cR ∧
  Fld Z h s_WIN "java/lang/Enum" "ordinal" "I" (.int 0) ∧
  Exa Z h s_LOSS cR ∧
  Fld Z h s_LOSS "java/lang/Enum" "ordinal" "I" (.int 1) ∧
  Exa Z h s_DRAW cR ∧
  Fld Z h s_DRAW "java/lang/Enum" "ordinal" "I" (.int 2) ∧
  Arv Z h s_SW k901 .int 3 [(.int 1), (.int 3), (.int 2)] (.int 0) ∧
  Arv Z h s_EM k902 (.object "java/lang/Object") 0 [] .null ∧
  Exa Z h c1 cT ∧
  Fld Z h c1 cT "wins" "[I" (.ref c2) ∧
  Fld Z h c1 cT "draws" "[I" (.ref c3) ∧
  Fld Z h c1 cT "losses" "[I" (.ref c4) ∧
  Fld Z h c1 cT "matches" "I" (.int n1_) ∧
  Fld Z h c1 cT "drawnMatches" "I" (.int n2_) ∧
  Arv Z h c2 kc1 .int 2 [(.int n3_), (.int n4_)] (.int 0) ∧
  Arv Z h c3 kc2 .int 2 [(.int n5_), (.int n6_)] (.int 0) ∧
  Arv Z h c4 kc3 .int 2 [(.int n7_), (.int n8_)] (.int 0) ∧
  Exa Z h c5 cT ∧
  Fld Z h c5 cT "wins" "[I" (.ref c6) ∧
  Fld Z h c5 cT "draws" "[I" (.ref c7) ∧
  Fld Z h c5 cT "losses" "[I" (.ref c8) ∧
  Fld Z h c5 cT "matches" "I" (.int n9_) ∧
  Fld Z h c5 cT "drawnMatches" "I" (.int n10_) ∧
  Arv Z h c6 kc4 .int 2 [(.int n11_), (.int n12_)] (.int 0) ∧
  Arv Z h c7 kc5 .int 2 [(.int n13_), (.int n14_)] (.int 0) ∧
  Arv Z h c8 kc6 .int 2 [(.int n15_), (.int n16_)] (.int 0) ∧
  Exa Z h c9 cA ∧
  Fld Z h c9 "java/util/AbstractList" "modCount" "I" (.int 2) ∧
  Fld Z h c9 cA "elementData" "[Ljava/lang/Object;" (.ref c10) ∧
  Fld Z h c9 cA "size" "I" (.int 2) ∧
  Exa Z h e0_ cR ∧
  Exa Z h c10 "[Ljava/lang/Object;" ∧
  Arv Z h c10 kc7 (.object "java/lang/Object") 10 [(.ref e0_), (.ref e1_), .null, .null, .null, .null, .null, .null, .null, .null] .null ∧
  Ovr Z kc7 "java/lang/Object" ∧
  Exa Z h e1_ cR ∧
  Exa Z h c11 cA ∧
  Fld Z h c11 "java/util/AbstractList" "modCount" "I" (.int 2) ∧
  Fld Z h c11 cA "elementData" "[Ljava/lang/Object;" (.ref c12) ∧
  Fld Z h c11 cA "size" "I" (.int 2) ∧
  Exa Z h e2_ cR ∧
  Exa Z h c12 "[Ljava/lang/Object;" ∧
  Arv Z h c12 kc8 (.object "java/lang/Object") 10 [(.ref e2_), (.ref e3_), .null, .null, .null, .null, .null, .null, .null, .null] .null ∧
  Ovr Z kc8 "java/lang/Object" ∧
  Exa Z h e3_ cR ∧
  n0 ≤ c1 ∧
  c1 < c2 ∧
  c2 < c3 ∧
  c3 < c4 ∧
  c4 < c5 ∧
  c5 < c6 ∧
  c6 < c7 ∧
  c7 < c8 ∧
  c8 < c9 ∧
  c9 < c10 ∧
  c10 < c11 ∧
  c11 < c12 ∧
  s_WIN < n0 ∧
  s_LOSS < n0 ∧
  s_DRAW < n0 ∧
  s_SW < n0 ∧
  s_EM < n0 ∧
  e0_ < n0 ∧
  e1_ < n0 ∧
  e2_ < n0 ∧
  e3_ < n0 ∧
  (v0_ = (0 : Int32) ∨ v0_ = (1 : Int32) ∨ v0_ = (2 : Int32)) ∧
  (v1_ = (0 : Int32) ∨ v1_ = (1 : Int32) ∨ v1_ = (2 : Int32)) ∧
  (v2_ = (0 : Int32) ∨ v2_ = (1 : Int32) ∨ v2_ = (2 : Int32)) ∧
  (v3_ = (0 : Int32) ∨ v3_ = (1 : Int32) ∨ v3_ = (2 : Int32)) ∧
  (((0 : Int32) = v0_ ∧ s_WIN = e0_) ∨ ((1 : Int32) = v0_ ∧ s_LOSS = e0_) ∨ ((2 : Int32) = v0_ ∧ s_DRAW = e0_)) ∧
  (((0 : Int32) = v1_ ∧ s_WIN = e1_) ∨ ((1 : Int32) = v1_ ∧ s_LOSS = e1_) ∨ ((2 : Int32) = v1_ ∧ s_DRAW = e1_)) ∧
  (((0 : Int32) = v2_ ∧ s_WIN = e2_) ∨ ((1 : Int32) = v2_ ∧ s_LOSS = e2_) ∨ ((2 : Int32) = v2_ ∧ s_DRAW = e2_)) ∧
  (((0 : Int32) = v3_ ∧ s_WIN = e3_) ∨ ((1 : Int32) = v3_ ∧ s_LOSS = e3_) ∨ ((2 : Int32) = v3_ ∧ s_DRAW = e3_))
def St28 (Z : State) (h : Heap) (n0 : Nat) (s_WIN : Nat) (s_LOSS : Nat) (s_DRAW : Nat) (s_SW : Nat) (s_EM : Nat) (e0_ : Nat) (e1_ : Nat) (e2_ : Nat) (e3_ : Nat) (c1 : Nat) (c2 : Nat) (c3 : Nat) (c4 : Nat) (c5 : Nat) (c6 : Nat) (c7 : Nat) (c8 : Nat) (c9 : Nat) (c10 : Nat) (c11 : Nat) (c12 : Nat) (k901 : ClassId) (k902 : ClassId) (kc1 : ClassId) (kc2 : ClassId) (kc3 : ClassId) (kc4 : ClassId) (kc5 : ClassId) (kc6 : ClassId) (kc7 : ClassId) (kc8 : ClassId) (n1_ : Int32) (n2_ : Int32) (v0_ : Int32) (v1_ : Int32) (n3_ : Int32) (n4_ : Int32) (n5_ : Int32) (n6_ : Int32) (n7_ : Int32) (n8_ : Int32) (n9_ : Int32) (n10_ : Int32) (n11_ : Int32) (n12_ : Int32) (n13_ : Int32) (n14_ : Int32) (n15_ : Int32) (n16_ : Int32) (v2_ : Int32) (v3_ : Int32) : Prop :=
  Sta Z h cR "WIN" "Lcom/example/gamesmith/gamesmith/game/Result;" (.ref s_WIN) ∧
  Sta Z h cR "LOSS" "Lcom/example/gamesmith/gamesmith/game/Result;" (.ref s_LOSS) ∧
  Sta Z h cR "DRAW" "Lcom/example/gamesmith/gamesmith/game/Result;" (.ref s_DRAW) ∧
  Sta Z h "com/example/gamesmith/gamesmith/arena/Tally$1" "$SwitchMap$com$example$gamesmith$gamesmith$game$Result" "[I" (.ref s_SW) ∧
  Sta Z h cA "DEFAULTCAPACITY_EMPTY_ELEMENTDATA" "[Ljava/lang/Object;" (.ref s_EM) ∧
  Exa Z h s_WIN cR ∧
  Fld Z h s_WIN "java/lang/Enum" "ordinal" "I" (.int 0) ∧
  Exa Z h s_LOSS cR ∧
  Fld Z h s_LOSS "java/lang/Enum" "ordinal" "I" (.int 1) ∧
  Exa Z h s_DRAW cR ∧
  Fld Z h s_DRAW "java/lang/Enum" "ordinal" "I" (.int 2) ∧
  Arv Z h s_SW k901 .int 3 [(.int 1), (.int 3), (.int 2)] (.int 0) ∧
  Arv Z h s_EM k902 (.object "java/lang/Object") 0 [] .null ∧
  Exa Z h c1 cT ∧
  Fld Z h c1 cT "wins" "[I" (.ref c2) ∧
  Fld Z h c1 cT "draws" "[I" (.ref c3) ∧
  Fld Z h c1 cT "losses" "[I" (.ref c4) ∧
  Fld Z h c1 cT "matches" "I" (.int (n1_ + (1 : Int32))) ∧
  Fld Z h c1 cT "drawnMatches" "I" (.int (bumpD n2_ v0_ v1_)) ∧
  Arv Z h c2 kc1 .int 2 [(.int (bump n3_ v0_ 0)), (.int (bump n4_ v1_ 0))] (.int 0) ∧
  Arv Z h c3 kc2 .int 2 [(.int (bump n5_ v0_ 2)), (.int (bump n6_ v1_ 2))] (.int 0) ∧
  Arv Z h c4 kc3 .int 2 [(.int (bump n7_ v0_ 1)), (.int (bump n8_ v1_ 1))] (.int 0) ∧
  Exa Z h c5 cT ∧
  Fld Z h c5 cT "wins" "[I" (.ref c6) ∧
  Fld Z h c5 cT "draws" "[I" (.ref c7) ∧
  Fld Z h c5 cT "losses" "[I" (.ref c8) ∧
  Fld Z h c5 cT "matches" "I" (.int n9_) ∧
  Fld Z h c5 cT "drawnMatches" "I" (.int n10_) ∧
  Arv Z h c6 kc4 .int 2 [(.int n11_), (.int n12_)] (.int 0) ∧
  Arv Z h c7 kc5 .int 2 [(.int n13_), (.int n14_)] (.int 0) ∧
  Arv Z h c8 kc6 .int 2 [(.int n15_), (.int n16_)] (.int 0) ∧
  Exa Z h c9 cA ∧
  Fld Z h c9 "java/util/AbstractList" "modCount" "I" (.int 2) ∧
  Fld Z h c9 cA "elementData" "[Ljava/lang/Object;" (.ref c10) ∧
  Fld Z h c9 cA "size" "I" (.int 2) ∧
  Exa Z h e0_ cR ∧
  Exa Z h c10 "[Ljava/lang/Object;" ∧
  Arv Z h c10 kc7 (.object "java/lang/Object") 10 [(.ref e0_), (.ref e1_), .null, .null, .null, .null, .null, .null, .null, .null] .null ∧
  Ovr Z kc7 "java/lang/Object" ∧
  Exa Z h e1_ cR ∧
  Exa Z h c11 cA ∧
  Fld Z h c11 "java/util/AbstractList" "modCount" "I" (.int 2) ∧
  Fld Z h c11 cA "elementData" "[Ljava/lang/Object;" (.ref c12) ∧
  Fld Z h c11 cA "size" "I" (.int 2) ∧
  Exa Z h e2_ cR ∧
  Exa Z h c12 "[Ljava/lang/Object;" ∧
  Arv Z h c12 kc8 (.object "java/lang/Object") 10 [(.ref e2_), (.ref e3_), .null, .null, .null, .null, .null, .null, .null, .null] .null ∧
  Ovr Z kc8 "java/lang/Object" ∧
  Exa Z h e3_ cR ∧
  n0 ≤ c1 ∧
  c1 < c2 ∧
  c2 < c3 ∧
  c3 < c4 ∧
  c4 < c5 ∧
  c5 < c6 ∧
  c6 < c7 ∧
  c7 < c8 ∧
  c8 < c9 ∧
  c9 < c10 ∧
  c10 < c11 ∧
  c11 < c12 ∧
  s_WIN < n0 ∧
  s_LOSS < n0 ∧
  s_DRAW < n0 ∧
  s_SW < n0 ∧
  s_EM < n0 ∧
  e0_ < n0 ∧
  e1_ < n0 ∧
  e2_ < n0 ∧
  e3_ < n0 ∧
  (v0_ = (0 : Int32) ∨ v0_ = (1 : Int32) ∨ v0_ = (2 : Int32)) ∧
  (v1_ = (0 : Int32) ∨ v1_ = (1 : Int32) ∨ v1_ = (2 : Int32)) ∧
  (v2_ = (0 : Int32) ∨ v2_ = (1 : Int32) ∨ v2_ = (2 : Int32)) ∧
  (v3_ = (0 : Int32) ∨ v3_ = (1 : Int32) ∨ v3_ = (2 : Int32)) ∧
  (((0 : Int32) = v0_ ∧ s_WIN = e0_) ∨ ((1 : Int32) = v0_ ∧ s_LOSS = e0_) ∨ ((2 : Int32) = v0_ ∧ s_DRAW = e0_)) ∧
  (((0 : Int32) = v1_ ∧ s_WIN = e1_) ∨ ((1 : Int32) = v1_ ∧ s_LOSS = e1_) ∨ ((2 : Int32) = v1_ ∧ s_DRAW = e1_)) ∧
  (((0 : Int32) = v2_ ∧ s_WIN = e2_) ∨ ((1 : Int32) = v2_ ∧ s_LOSS = e2_) ∨ ((2 : Int32) = v2_ ∧ s_DRAW = e2_)) ∧
  (((0 : Int32) = v3_ ∧ s_WIN = e3_) ∨ ((1 : Int32) = v3_ ∧ s_LOSS = e3_) ∨ ((2 : Int32) = v3_ ∧ s_DRAW = e3_))
theorem q580 (l : Launch) (Z : State) (a0 : Array Value) (hw : HW a0 Z) (ws : List Jvm.Cond) (h0 : Heap) (n0 : Nat) (c1 : Nat) (F_c1_s : Fld Z h0 c1 cA "size" "I" (.int 2)) :
    MC l Z y13 jdk_38_method_8_code 1 (some .int) ws rm_0_0_0_0 #[(.ref c1)] h0 (QV (.int 2) h0 n0) := by
  refine own_met (plainFor_of_name pn13) fun p e s m below meth c s₁ X0 hx hZ Y hml hO hnm hlk hret e0 => f_cast (f' := mkF m 0 #[(rv c1)] []) (by first | (simp [entryFrame, mkF, argsToLocals, Value.category]; done) | rfl) ?_
  have N0 := Fr.nil n0
  refine aN X0 hx (hb Y d13_0) rfl rfl <| gF X0 hx hZ hO (w58 hw) Via.refl e0 F_c1_s (hb Y d13_1) fun T579 X579 e579 => ?_
  exact f_ret X579 hx hlk (i := .ireturn) hret rfl (Or.inl ⟨rfl, Or.inl rfl, _, rfl⟩) (hb Y d13_4) (QQ := (QV (.int 2) h0 n0)) ⟨rfl, N0, e579⟩ (by decide) (by decide)
theorem q589 (l : Launch) (Z : State) (a0 : Array Value) (hw : HW a0 Z) (ws : List Jvm.Cond) (h0 : Heap) (n0 : Nat) :
    MC l Z y16 jdk_41_method_11_code 3 (some .int) ws rm_0_0_0_0 #[(.int 0), (.int 2), .null] h0 (QV (.int 0) h0 n0) := by
  refine own_met (plainFor_of_name pn16) fun p e s m below meth c s₁ X0 hx hZ Y hml hO hnm hlk hret e0 => f_cast (f' := mkF m 0 #[(iv 0), (iv 2), (.val .null)] []) (by first | (simp [entryFrame, mkF, argsToLocals, Value.category]; done) | rfl) ?_
  have N0 := Fr.nil n0
  refine iN X0 hx (hb Y d16_0) rfl <| fN X0 hx (hb Y d16_1) <| iN X0 hx (hb Y d16_4) rfl <| iN X0 hx (hb Y d16_5) rfl <| cY X0 hx (pc := 6) 16 (hb Y d16_6) <| iN X0 hx (hb Y d16_16) rfl ?_
  exact f_ret X0 hx hlk (i := .ireturn) hret rfl (Or.inl ⟨rfl, Or.inl rfl, _, rfl⟩) (hb Y d16_17) (QQ := (QV (.int 0) h0 n0)) ⟨rfl, N0, e0⟩ (by decide) (by decide)
theorem q590 (l : Launch) (Z : State) (a0 : Array Value) (hw : HW a0 Z) (ws : List Jvm.Cond) (h0 : Heap) (n0 : Nat) :
    MC l Z y15 jdk_31_method_17_code 2 (some .int) ws rm_1_0_0_14 #[(.int 0), (.int 2)] h0 (QV (.int 0) h0 n0) := by
  refine own_met (plainFor_of_name pn15) fun p e s m below meth c s₁ X0 hx hZ Y hml hO hnm hlk hret e0 => f_cast (f' := mkF m 0 #[(iv 0), (iv 2)] []) (by first | (simp [entryFrame, mkF, argsToLocals, Value.category]; done) | rfl) ?_
  have N0 := Fr.nil n0
  refine iN X0 hx (hb Y d15_0) rfl <| iN X0 hx (hb Y d15_1) rfl <| f_null X0 hx (hb Y d15_2) <| f_stat X0 hx hZ hO (by rw [hml]; rfl) (w115 hw) (w116 hw) (w117 hw) (w118 hw) e0 (argsL := [(.int 0), (.int 2), .null]) (rest := []) (q589 l Z a0 hw [] h0 n0) (lenOf pd10 rfl) (hb Y d15_3) fun T588 L588 v588 X588 hQ588 => ?_
  obtain ⟨rfl, N588q, e588⟩ := hQ588
  have N588 := Fr.app N0 N588q
  exact f_ret X588 hx hlk (i := .ireturn) hret rfl (Or.inl ⟨rfl, Or.inl rfl, _, rfl⟩) (hb Y d15_6) (QQ := (QV (.int 0) h0 n0)) ⟨rfl, N588, e588⟩ (by decide) (by decide)
theorem q593 (l : Launch) (Z : State) (a0 : Array Value) (hw : HW a0 Z) (ws : List Jvm.Cond) (h0 : Heap) (n0 : Nat) (c1 : Nat) (c2 : Nat) (kc3 : ClassId) (s_WIN : Nat) (F_c1_elementData : Fld Z h0 c1 cA "elementData" "[Ljava/lang/Object;" (.ref c2)) (V_c2 : Arv Z h0 c2 kc3 (.object "java/lang/Object") 10 [(.ref s_WIN), (.ref s_WIN), .null, .null, .null, .null, .null, .null, .null, .null] .null) :
    MC l Z y17 jdk_38_method_18_code 2 (some (.object "java/lang/Object")) ws rm_0_0_0_0 #[(.ref c1), (.int 0)] h0 (QV (.ref s_WIN) h0 n0) := by
  refine own_met (plainFor_of_name pn17) fun p e s m below meth c s₁ X0 hx hZ Y hml hO hnm hlk hret e0 => f_cast (f' := mkF m 0 #[(rv c1), (iv 0)] []) (by first | (simp [entryFrame, mkF, argsToLocals, Value.category]; done) | rfl) ?_
  have N0 := Fr.nil n0
  refine aN X0 hx (hb Y d17_0) rfl rfl <| gF X0 hx hZ hO (w43 hw) Via.refl e0 F_c1_elementData (hb Y d17_1) fun T592 X592 e592 => ?_
  refine iN X592 hx (hb Y d17_4) rfl <| f_aald X592 hx hZ e592 V_c2 rfl (v := (.ref s_WIN)) rfl (hb Y d17_5) ?_
  exact f_ret X592 hx hlk (i := .areturn) hret rfl (Or.inr (Or.inr (Or.inr (Or.inr ⟨rfl, rfl, rfl⟩)))) (hb Y d17_6) (QQ := (QV (.ref s_WIN) h0 n0)) ⟨rfl, N0, e592⟩ (by decide) (by decide)
theorem q594 (l : Launch) (Z : State) (a0 : Array Value) (hw : HW a0 Z) (ws : List Jvm.Cond) (h0 : Heap) (n0 : Nat) (c1 : Nat) (c2 : Nat) (kc3 : ClassId) (s_WIN : Nat) (F_c1_s : Fld Z h0 c1 cA "size" "I" (.int 2)) (F_c1_elementData : Fld Z h0 c1 cA "elementData" "[Ljava/lang/Object;" (.ref c2)) (V_c2 : Arv Z h0 c2 kc3 (.object "java/lang/Object") 10 [(.ref s_WIN), (.ref s_WIN), .null, .null, .null, .null, .null, .null, .null, .null] .null) (E_c1 : Exa Z h0 c1 cA) :
    MC l Z y14 jdk_38_method_20_code 2 (some (.object "java/lang/Object")) ws rm_2_0_0_27 #[(.ref c1), (.int 0)] h0 (QV (.ref s_WIN) h0 n0) := by
  refine own_met (plainFor_of_name pn14) fun p e s m below meth c s₁ X0 hx hZ Y hml hO hnm hlk hret e0 => f_cast (f' := mkF m 0 #[(rv c1), (iv 0)] []) (by first | (simp [entryFrame, mkF, argsToLocals, Value.category]; done) | rfl) ?_
  have N0 := Fr.nil n0
  refine iN X0 hx (hb Y d14_0) rfl <| aN X0 hx (hb Y d14_1) rfl rfl <| gF X0 hx hZ hO (w58 hw) Via.refl e0 F_c1_s (hb Y d14_2) fun T586 X586 e586 => ?_
  refine f_stat X586 hx hZ hO (by rw [hml]; rfl) (w111 hw) (w112 hw) (w113 hw) (w114 hw) e586 (argsL := [(.int 0), (.int 2)]) (rest := []) (q590 l Z a0 hw [] h0 n0) (lenOf pd4 rfl) (hb Y d14_5) fun T587 L587 v587 X587 hQ587 => ?_
  obtain ⟨rfl, N587q, e587⟩ := hQ587
  have N587 := Fr.app N0 N587q
  refine f_pop X587 hx (hb Y d14_8) rfl <| aN X587 hx (hb Y d14_9) rfl rfl <| iN X587 hx (hb Y d14_10) rfl <| vV X587 hx hZ hO (by rw [hml]; rfl) (w119 hw) (w120 hw) (w122 hw) (w121 hw) (w23 hw) (w123 hw) e587 E_c1 (argsL := [(.int 0)]) (rest := []) (q593 l Z a0 hw [] h0 n0 c1 c2 kc3 s_WIN F_c1_elementData V_c2) (lenOf pd11 rfl) (hb Y d14_11) fun T591 L591 v591 X591 hQ591 => ?_
  obtain ⟨rfl, N591q, e591⟩ := hQ591
  have N591 := Fr.app N587 N591q
  exact f_ret X591 hx hlk (i := .areturn) hret rfl (Or.inr (Or.inr (Or.inr (Or.inr ⟨rfl, rfl, rfl⟩)))) (hb Y d14_14) (QQ := (QV (.ref s_WIN) h0 n0)) ⟨rfl, N591, e591⟩ (by decide) (by decide)
theorem q598 (l : Launch) (Z : State) (a0 : Array Value) (hw : HW a0 Z) (ws : List Jvm.Cond) (h0 : Heap) (n0 : Nat) (s_WIN : Nat) (F_s_WIN_ordinal : Fld Z h0 s_WIN "java/lang/Enum" "ordinal" "I" (.int 0)) :
    MC l Z y18 jdk_37_method_2_code 1 (some .int) ws rm_0_0_0_0 #[(.ref s_WIN)] h0 (QV (.int 0) h0 n0) := by
  refine own_met (plainFor_of_name pn18) fun p e s m below meth c s₁ X0 hx hZ Y hml hO hnm hlk hret e0 => f_cast (f' := mkF m 0 #[(rv s_WIN)] []) (by first | (simp [entryFrame, mkF, argsToLocals, Value.category]; done) | rfl) ?_
  have N0 := Fr.nil n0
  refine aN X0 hx (hb Y d18_0) rfl rfl <| gF X0 hx hZ hO (w133 hw) Via.refl e0 F_s_WIN_ordinal (hb Y d18_1) fun T597 X597 e597 => ?_
  exact f_ret X597 hx hlk (i := .ireturn) hret rfl (Or.inl ⟨rfl, Or.inl rfl, _, rfl⟩) (hb Y d18_4) (QQ := (QV (.int 0) h0 n0)) ⟨rfl, N0, e597⟩ (by decide) (by decide)
theorem q608 (l : Launch) (Z : State) (a0 : Array Value) (hw : HW a0 Z) (ws : List Jvm.Cond) (h0 : Heap) (n0 : Nat) :
    MC l Z y16 jdk_41_method_11_code 3 (some .int) ws rm_0_0_0_0 #[(.int 1), (.int 2), .null] h0 (QV (.int 1) h0 n0) := by
  refine own_met (plainFor_of_name pn16) fun p e s m below meth c s₁ X0 hx hZ Y hml hO hnm hlk hret e0 => f_cast (f' := mkF m 0 #[(iv 1), (iv 2), (.val .null)] []) (by first | (simp [entryFrame, mkF, argsToLocals, Value.category]; done) | rfl) ?_
  have N0 := Fr.nil n0
  refine iN X0 hx (hb Y d16_0) rfl <| fN X0 hx (hb Y d16_1) <| iN X0 hx (hb Y d16_4) rfl <| iN X0 hx (hb Y d16_5) rfl <| cY X0 hx (pc := 6) 16 (hb Y d16_6) <| iN X0 hx (hb Y d16_16) rfl ?_
  exact f_ret X0 hx hlk (i := .ireturn) hret rfl (Or.inl ⟨rfl, Or.inl rfl, _, rfl⟩) (hb Y d16_17) (QQ := (QV (.int 1) h0 n0)) ⟨rfl, N0, e0⟩ (by decide) (by decide)
theorem q609 (l : Launch) (Z : State) (a0 : Array Value) (hw : HW a0 Z) (ws : List Jvm.Cond) (h0 : Heap) (n0 : Nat) :
    MC l Z y15 jdk_31_method_17_code 2 (some .int) ws rm_1_0_0_14 #[(.int 1), (.int 2)] h0 (QV (.int 1) h0 n0) := by
  refine own_met (plainFor_of_name pn15) fun p e s m below meth c s₁ X0 hx hZ Y hml hO hnm hlk hret e0 => f_cast (f' := mkF m 0 #[(iv 1), (iv 2)] []) (by first | (simp [entryFrame, mkF, argsToLocals, Value.category]; done) | rfl) ?_
  have N0 := Fr.nil n0
  refine iN X0 hx (hb Y d15_0) rfl <| iN X0 hx (hb Y d15_1) rfl <| f_null X0 hx (hb Y d15_2) <| f_stat X0 hx hZ hO (by rw [hml]; rfl) (w115 hw) (w116 hw) (w117 hw) (w118 hw) e0 (argsL := [(.int 1), (.int 2), .null]) (rest := []) (q608 l Z a0 hw [] h0 n0) (lenOf pd10 rfl) (hb Y d15_3) fun T607 L607 v607 X607 hQ607 => ?_
  obtain ⟨rfl, N607q, e607⟩ := hQ607
  have N607 := Fr.app N0 N607q
  exact f_ret X607 hx hlk (i := .ireturn) hret rfl (Or.inl ⟨rfl, Or.inl rfl, _, rfl⟩) (hb Y d15_6) (QQ := (QV (.int 1) h0 n0)) ⟨rfl, N607, e607⟩ (by decide) (by decide)
theorem q612 (l : Launch) (Z : State) (a0 : Array Value) (hw : HW a0 Z) (ws : List Jvm.Cond) (h0 : Heap) (n0 : Nat) (c1 : Nat) (c2 : Nat) (kc3 : ClassId) (s_WIN : Nat) (F_c1_elementData : Fld Z h0 c1 cA "elementData" "[Ljava/lang/Object;" (.ref c2)) (V_c2 : Arv Z h0 c2 kc3 (.object "java/lang/Object") 10 [(.ref s_WIN), (.ref s_WIN), .null, .null, .null, .null, .null, .null, .null, .null] .null) :
    MC l Z y17 jdk_38_method_18_code 2 (some (.object "java/lang/Object")) ws rm_0_0_0_0 #[(.ref c1), (.int 1)] h0 (QV (.ref s_WIN) h0 n0) := by
  refine own_met (plainFor_of_name pn17) fun p e s m below meth c s₁ X0 hx hZ Y hml hO hnm hlk hret e0 => f_cast (f' := mkF m 0 #[(rv c1), (iv 1)] []) (by first | (simp [entryFrame, mkF, argsToLocals, Value.category]; done) | rfl) ?_
  have N0 := Fr.nil n0
  refine aN X0 hx (hb Y d17_0) rfl rfl <| gF X0 hx hZ hO (w43 hw) Via.refl e0 F_c1_elementData (hb Y d17_1) fun T611 X611 e611 => ?_
  refine iN X611 hx (hb Y d17_4) rfl <| f_aald X611 hx hZ e611 V_c2 rfl (v := (.ref s_WIN)) rfl (hb Y d17_5) ?_
  exact f_ret X611 hx hlk (i := .areturn) hret rfl (Or.inr (Or.inr (Or.inr (Or.inr ⟨rfl, rfl, rfl⟩)))) (hb Y d17_6) (QQ := (QV (.ref s_WIN) h0 n0)) ⟨rfl, N0, e611⟩ (by decide) (by decide)
theorem q613 (l : Launch) (Z : State) (a0 : Array Value) (hw : HW a0 Z) (ws : List Jvm.Cond) (h0 : Heap) (n0 : Nat) (c1 : Nat) (c2 : Nat) (kc3 : ClassId) (s_WIN : Nat) (F_c1_s : Fld Z h0 c1 cA "size" "I" (.int 2)) (F_c1_elementData : Fld Z h0 c1 cA "elementData" "[Ljava/lang/Object;" (.ref c2)) (V_c2 : Arv Z h0 c2 kc3 (.object "java/lang/Object") 10 [(.ref s_WIN), (.ref s_WIN), .null, .null, .null, .null, .null, .null, .null, .null] .null) (E_c1 : Exa Z h0 c1 cA) :
    MC l Z y14 jdk_38_method_20_code 2 (some (.object "java/lang/Object")) ws rm_2_0_0_27 #[(.ref c1), (.int 1)] h0 (QV (.ref s_WIN) h0 n0) := by
  refine own_met (plainFor_of_name pn14) fun p e s m below meth c s₁ X0 hx hZ Y hml hO hnm hlk hret e0 => f_cast (f' := mkF m 0 #[(rv c1), (iv 1)] []) (by first | (simp [entryFrame, mkF, argsToLocals, Value.category]; done) | rfl) ?_
  have N0 := Fr.nil n0
  refine iN X0 hx (hb Y d14_0) rfl <| aN X0 hx (hb Y d14_1) rfl rfl <| gF X0 hx hZ hO (w58 hw) Via.refl e0 F_c1_s (hb Y d14_2) fun T605 X605 e605 => ?_
  refine f_stat X605 hx hZ hO (by rw [hml]; rfl) (w111 hw) (w112 hw) (w113 hw) (w114 hw) e605 (argsL := [(.int 1), (.int 2)]) (rest := []) (q609 l Z a0 hw [] h0 n0) (lenOf pd4 rfl) (hb Y d14_5) fun T606 L606 v606 X606 hQ606 => ?_
  obtain ⟨rfl, N606q, e606⟩ := hQ606
  have N606 := Fr.app N0 N606q
  refine f_pop X606 hx (hb Y d14_8) rfl <| aN X606 hx (hb Y d14_9) rfl rfl <| iN X606 hx (hb Y d14_10) rfl <| vV X606 hx hZ hO (by rw [hml]; rfl) (w119 hw) (w120 hw) (w122 hw) (w121 hw) (w23 hw) (w123 hw) e606 E_c1 (argsL := [(.int 1)]) (rest := []) (q612 l Z a0 hw [] h0 n0 c1 c2 kc3 s_WIN F_c1_elementData V_c2) (lenOf pd11 rfl) (hb Y d14_11) fun T610 L610 v610 X610 hQ610 => ?_
  obtain ⟨rfl, N610q, e610⟩ := hQ610
  have N610 := Fr.app N606 N610q
  exact f_ret X610 hx hlk (i := .areturn) hret rfl (Or.inr (Or.inr (Or.inr (Or.inr ⟨rfl, rfl, rfl⟩)))) (hb Y d14_14) (QQ := (QV (.ref s_WIN) h0 n0)) ⟨rfl, N610, e610⟩ (by decide) (by decide)
theorem q637 (l : Launch) (Z : State) (a0 : Array Value) (hw : HW a0 Z) (ws : List Jvm.Cond) (h0 : Heap) (n0 : Nat) (c1 : Nat) (c2 : Nat) (kc3 : ClassId) (s_WIN : Nat) (s_LOSS : Nat) (F_c1_elementData : Fld Z h0 c1 cA "elementData" "[Ljava/lang/Object;" (.ref c2)) (V_c2 : Arv Z h0 c2 kc3 (.object "java/lang/Object") 10 [(.ref s_WIN), (.ref s_LOSS), .null, .null, .null, .null, .null, .null, .null, .null] .null) :
    MC l Z y17 jdk_38_method_18_code 2 (some (.object "java/lang/Object")) ws rm_0_0_0_0 #[(.ref c1), (.int 0)] h0 (QV (.ref s_WIN) h0 n0) := by
  refine own_met (plainFor_of_name pn17) fun p e s m below meth c s₁ X0 hx hZ Y hml hO hnm hlk hret e0 => f_cast (f' := mkF m 0 #[(rv c1), (iv 0)] []) (by first | (simp [entryFrame, mkF, argsToLocals, Value.category]; done) | rfl) ?_
  have N0 := Fr.nil n0
  refine aN X0 hx (hb Y d17_0) rfl rfl <| gF X0 hx hZ hO (w43 hw) Via.refl e0 F_c1_elementData (hb Y d17_1) fun T636 X636 e636 => ?_
  refine iN X636 hx (hb Y d17_4) rfl <| f_aald X636 hx hZ e636 V_c2 rfl (v := (.ref s_WIN)) rfl (hb Y d17_5) ?_
  exact f_ret X636 hx hlk (i := .areturn) hret rfl (Or.inr (Or.inr (Or.inr (Or.inr ⟨rfl, rfl, rfl⟩)))) (hb Y d17_6) (QQ := (QV (.ref s_WIN) h0 n0)) ⟨rfl, N0, e636⟩ (by decide) (by decide)
theorem q638 (l : Launch) (Z : State) (a0 : Array Value) (hw : HW a0 Z) (ws : List Jvm.Cond) (h0 : Heap) (n0 : Nat) (c1 : Nat) (c2 : Nat) (kc3 : ClassId) (s_WIN : Nat) (s_LOSS : Nat) (F_c1_s : Fld Z h0 c1 cA "size" "I" (.int 2)) (F_c1_elementData : Fld Z h0 c1 cA "elementData" "[Ljava/lang/Object;" (.ref c2)) (V_c2 : Arv Z h0 c2 kc3 (.object "java/lang/Object") 10 [(.ref s_WIN), (.ref s_LOSS), .null, .null, .null, .null, .null, .null, .null, .null] .null) (E_c1 : Exa Z h0 c1 cA) :
    MC l Z y14 jdk_38_method_20_code 2 (some (.object "java/lang/Object")) ws rm_2_0_0_27 #[(.ref c1), (.int 0)] h0 (QV (.ref s_WIN) h0 n0) := by
  refine own_met (plainFor_of_name pn14) fun p e s m below meth c s₁ X0 hx hZ Y hml hO hnm hlk hret e0 => f_cast (f' := mkF m 0 #[(rv c1), (iv 0)] []) (by first | (simp [entryFrame, mkF, argsToLocals, Value.category]; done) | rfl) ?_
  have N0 := Fr.nil n0
  refine iN X0 hx (hb Y d14_0) rfl <| aN X0 hx (hb Y d14_1) rfl rfl <| gF X0 hx hZ hO (w58 hw) Via.refl e0 F_c1_s (hb Y d14_2) fun T632 X632 e632 => ?_
  refine f_stat X632 hx hZ hO (by rw [hml]; rfl) (w111 hw) (w112 hw) (w113 hw) (w114 hw) e632 (argsL := [(.int 0), (.int 2)]) (rest := []) (q590 l Z a0 hw [] h0 n0) (lenOf pd4 rfl) (hb Y d14_5) fun T633 L633 v633 X633 hQ633 => ?_
  obtain ⟨rfl, N633q, e633⟩ := hQ633
  have N633 := Fr.app N0 N633q
  refine f_pop X633 hx (hb Y d14_8) rfl <| aN X633 hx (hb Y d14_9) rfl rfl <| iN X633 hx (hb Y d14_10) rfl <| vV X633 hx hZ hO (by rw [hml]; rfl) (w119 hw) (w120 hw) (w122 hw) (w121 hw) (w23 hw) (w123 hw) e633 E_c1 (argsL := [(.int 0)]) (rest := []) (q637 l Z a0 hw [] h0 n0 c1 c2 kc3 s_WIN s_LOSS F_c1_elementData V_c2) (lenOf pd11 rfl) (hb Y d14_11) fun T635 L635 v635 X635 hQ635 => ?_
  obtain ⟨rfl, N635q, e635⟩ := hQ635
  have N635 := Fr.app N633 N635q
  exact f_ret X635 hx hlk (i := .areturn) hret rfl (Or.inr (Or.inr (Or.inr (Or.inr ⟨rfl, rfl, rfl⟩)))) (hb Y d14_14) (QQ := (QV (.ref s_WIN) h0 n0)) ⟨rfl, N635, e635⟩ (by decide) (by decide)
theorem q653 (l : Launch) (Z : State) (a0 : Array Value) (hw : HW a0 Z) (ws : List Jvm.Cond) (h0 : Heap) (n0 : Nat) (c1 : Nat) (c2 : Nat) (kc3 : ClassId) (s_WIN : Nat) (s_LOSS : Nat) (F_c1_elementData : Fld Z h0 c1 cA "elementData" "[Ljava/lang/Object;" (.ref c2)) (V_c2 : Arv Z h0 c2 kc3 (.object "java/lang/Object") 10 [(.ref s_WIN), (.ref s_LOSS), .null, .null, .null, .null, .null, .null, .null, .null] .null) :
    MC l Z y17 jdk_38_method_18_code 2 (some (.object "java/lang/Object")) ws rm_0_0_0_0 #[(.ref c1), (.int 1)] h0 (QV (.ref s_LOSS) h0 n0) := by
  refine own_met (plainFor_of_name pn17) fun p e s m below meth c s₁ X0 hx hZ Y hml hO hnm hlk hret e0 => f_cast (f' := mkF m 0 #[(rv c1), (iv 1)] []) (by first | (simp [entryFrame, mkF, argsToLocals, Value.category]; done) | rfl) ?_
  have N0 := Fr.nil n0
  refine aN X0 hx (hb Y d17_0) rfl rfl <| gF X0 hx hZ hO (w43 hw) Via.refl e0 F_c1_elementData (hb Y d17_1) fun T652 X652 e652 => ?_
  refine iN X652 hx (hb Y d17_4) rfl <| f_aald X652 hx hZ e652 V_c2 rfl (v := (.ref s_LOSS)) rfl (hb Y d17_5) ?_
  exact f_ret X652 hx hlk (i := .areturn) hret rfl (Or.inr (Or.inr (Or.inr (Or.inr ⟨rfl, rfl, rfl⟩)))) (hb Y d17_6) (QQ := (QV (.ref s_LOSS) h0 n0)) ⟨rfl, N0, e652⟩ (by decide) (by decide)
theorem q654 (l : Launch) (Z : State) (a0 : Array Value) (hw : HW a0 Z) (ws : List Jvm.Cond) (h0 : Heap) (n0 : Nat) (c1 : Nat) (c2 : Nat) (kc3 : ClassId) (s_WIN : Nat) (s_LOSS : Nat) (F_c1_s : Fld Z h0 c1 cA "size" "I" (.int 2)) (F_c1_elementData : Fld Z h0 c1 cA "elementData" "[Ljava/lang/Object;" (.ref c2)) (V_c2 : Arv Z h0 c2 kc3 (.object "java/lang/Object") 10 [(.ref s_WIN), (.ref s_LOSS), .null, .null, .null, .null, .null, .null, .null, .null] .null) (E_c1 : Exa Z h0 c1 cA) :
    MC l Z y14 jdk_38_method_20_code 2 (some (.object "java/lang/Object")) ws rm_2_0_0_27 #[(.ref c1), (.int 1)] h0 (QV (.ref s_LOSS) h0 n0) := by
  refine own_met (plainFor_of_name pn14) fun p e s m below meth c s₁ X0 hx hZ Y hml hO hnm hlk hret e0 => f_cast (f' := mkF m 0 #[(rv c1), (iv 1)] []) (by first | (simp [entryFrame, mkF, argsToLocals, Value.category]; done) | rfl) ?_
  have N0 := Fr.nil n0
  refine iN X0 hx (hb Y d14_0) rfl <| aN X0 hx (hb Y d14_1) rfl rfl <| gF X0 hx hZ hO (w58 hw) Via.refl e0 F_c1_s (hb Y d14_2) fun T648 X648 e648 => ?_
  refine f_stat X648 hx hZ hO (by rw [hml]; rfl) (w111 hw) (w112 hw) (w113 hw) (w114 hw) e648 (argsL := [(.int 1), (.int 2)]) (rest := []) (q609 l Z a0 hw [] h0 n0) (lenOf pd4 rfl) (hb Y d14_5) fun T649 L649 v649 X649 hQ649 => ?_
  obtain ⟨rfl, N649q, e649⟩ := hQ649
  have N649 := Fr.app N0 N649q
  refine f_pop X649 hx (hb Y d14_8) rfl <| aN X649 hx (hb Y d14_9) rfl rfl <| iN X649 hx (hb Y d14_10) rfl <| vV X649 hx hZ hO (by rw [hml]; rfl) (w119 hw) (w120 hw) (w122 hw) (w121 hw) (w23 hw) (w123 hw) e649 E_c1 (argsL := [(.int 1)]) (rest := []) (q653 l Z a0 hw [] h0 n0 c1 c2 kc3 s_WIN s_LOSS F_c1_elementData V_c2) (lenOf pd11 rfl) (hb Y d14_11) fun T651 L651 v651 X651 hQ651 => ?_
  obtain ⟨rfl, N651q, e651⟩ := hQ651
  have N651 := Fr.app N649 N651q
  exact f_ret X651 hx hlk (i := .areturn) hret rfl (Or.inr (Or.inr (Or.inr (Or.inr ⟨rfl, rfl, rfl⟩)))) (hb Y d14_14) (QQ := (QV (.ref s_LOSS) h0 n0)) ⟨rfl, N651, e651⟩ (by decide) (by decide)
theorem q658 (l : Launch) (Z : State) (a0 : Array Value) (hw : HW a0 Z) (ws : List Jvm.Cond) (h0 : Heap) (n0 : Nat) (s_LOSS : Nat) (F_s_LOSS_ordinal : Fld Z h0 s_LOSS "java/lang/Enum" "ordinal" "I" (.int 1)) :
    MC l Z y18 jdk_37_method_2_code 1 (some .int) ws rm_0_0_0_0 #[(.ref s_LOSS)] h0 (QV (.int 1) h0 n0) := by
  refine own_met (plainFor_of_name pn18) fun p e s m below meth c s₁ X0 hx hZ Y hml hO hnm hlk hret e0 => f_cast (f' := mkF m 0 #[(rv s_LOSS)] []) (by first | (simp [entryFrame, mkF, argsToLocals, Value.category]; done) | rfl) ?_
  have N0 := Fr.nil n0
  refine aN X0 hx (hb Y d18_0) rfl rfl <| gF X0 hx hZ hO (w133 hw) Via.refl e0 F_s_LOSS_ordinal (hb Y d18_1) fun T657 X657 e657 => ?_
  exact f_ret X657 hx hlk (i := .ireturn) hret rfl (Or.inl ⟨rfl, Or.inl rfl, _, rfl⟩) (hb Y d18_4) (QQ := (QV (.int 1) h0 n0)) ⟨rfl, N0, e657⟩ (by decide) (by decide)
theorem q679 (l : Launch) (Z : State) (a0 : Array Value) (hw : HW a0 Z) (ws : List Jvm.Cond) (h0 : Heap) (n0 : Nat) (c1 : Nat) (c2 : Nat) (kc3 : ClassId) (s_WIN : Nat) (s_DRAW : Nat) (F_c1_elementData : Fld Z h0 c1 cA "elementData" "[Ljava/lang/Object;" (.ref c2)) (V_c2 : Arv Z h0 c2 kc3 (.object "java/lang/Object") 10 [(.ref s_WIN), (.ref s_DRAW), .null, .null, .null, .null, .null, .null, .null, .null] .null) :
    MC l Z y17 jdk_38_method_18_code 2 (some (.object "java/lang/Object")) ws rm_0_0_0_0 #[(.ref c1), (.int 0)] h0 (QV (.ref s_WIN) h0 n0) := by
  refine own_met (plainFor_of_name pn17) fun p e s m below meth c s₁ X0 hx hZ Y hml hO hnm hlk hret e0 => f_cast (f' := mkF m 0 #[(rv c1), (iv 0)] []) (by first | (simp [entryFrame, mkF, argsToLocals, Value.category]; done) | rfl) ?_
  have N0 := Fr.nil n0
  refine aN X0 hx (hb Y d17_0) rfl rfl <| gF X0 hx hZ hO (w43 hw) Via.refl e0 F_c1_elementData (hb Y d17_1) fun T678 X678 e678 => ?_
  refine iN X678 hx (hb Y d17_4) rfl <| f_aald X678 hx hZ e678 V_c2 rfl (v := (.ref s_WIN)) rfl (hb Y d17_5) ?_
  exact f_ret X678 hx hlk (i := .areturn) hret rfl (Or.inr (Or.inr (Or.inr (Or.inr ⟨rfl, rfl, rfl⟩)))) (hb Y d17_6) (QQ := (QV (.ref s_WIN) h0 n0)) ⟨rfl, N0, e678⟩ (by decide) (by decide)
theorem q680 (l : Launch) (Z : State) (a0 : Array Value) (hw : HW a0 Z) (ws : List Jvm.Cond) (h0 : Heap) (n0 : Nat) (c1 : Nat) (c2 : Nat) (kc3 : ClassId) (s_WIN : Nat) (s_DRAW : Nat) (F_c1_s : Fld Z h0 c1 cA "size" "I" (.int 2)) (F_c1_elementData : Fld Z h0 c1 cA "elementData" "[Ljava/lang/Object;" (.ref c2)) (V_c2 : Arv Z h0 c2 kc3 (.object "java/lang/Object") 10 [(.ref s_WIN), (.ref s_DRAW), .null, .null, .null, .null, .null, .null, .null, .null] .null) (E_c1 : Exa Z h0 c1 cA) :
    MC l Z y14 jdk_38_method_20_code 2 (some (.object "java/lang/Object")) ws rm_2_0_0_27 #[(.ref c1), (.int 0)] h0 (QV (.ref s_WIN) h0 n0) := by
  refine own_met (plainFor_of_name pn14) fun p e s m below meth c s₁ X0 hx hZ Y hml hO hnm hlk hret e0 => f_cast (f' := mkF m 0 #[(rv c1), (iv 0)] []) (by first | (simp [entryFrame, mkF, argsToLocals, Value.category]; done) | rfl) ?_
  have N0 := Fr.nil n0
  refine iN X0 hx (hb Y d14_0) rfl <| aN X0 hx (hb Y d14_1) rfl rfl <| gF X0 hx hZ hO (w58 hw) Via.refl e0 F_c1_s (hb Y d14_2) fun T674 X674 e674 => ?_
  refine f_stat X674 hx hZ hO (by rw [hml]; rfl) (w111 hw) (w112 hw) (w113 hw) (w114 hw) e674 (argsL := [(.int 0), (.int 2)]) (rest := []) (q590 l Z a0 hw [] h0 n0) (lenOf pd4 rfl) (hb Y d14_5) fun T675 L675 v675 X675 hQ675 => ?_
  obtain ⟨rfl, N675q, e675⟩ := hQ675
  have N675 := Fr.app N0 N675q
  refine f_pop X675 hx (hb Y d14_8) rfl <| aN X675 hx (hb Y d14_9) rfl rfl <| iN X675 hx (hb Y d14_10) rfl <| vV X675 hx hZ hO (by rw [hml]; rfl) (w119 hw) (w120 hw) (w122 hw) (w121 hw) (w23 hw) (w123 hw) e675 E_c1 (argsL := [(.int 0)]) (rest := []) (q679 l Z a0 hw [] h0 n0 c1 c2 kc3 s_WIN s_DRAW F_c1_elementData V_c2) (lenOf pd11 rfl) (hb Y d14_11) fun T677 L677 v677 X677 hQ677 => ?_
  obtain ⟨rfl, N677q, e677⟩ := hQ677
  have N677 := Fr.app N675 N677q
  exact f_ret X677 hx hlk (i := .areturn) hret rfl (Or.inr (Or.inr (Or.inr (Or.inr ⟨rfl, rfl, rfl⟩)))) (hb Y d14_14) (QQ := (QV (.ref s_WIN) h0 n0)) ⟨rfl, N677, e677⟩ (by decide) (by decide)
theorem q695 (l : Launch) (Z : State) (a0 : Array Value) (hw : HW a0 Z) (ws : List Jvm.Cond) (h0 : Heap) (n0 : Nat) (c1 : Nat) (c2 : Nat) (kc3 : ClassId) (s_WIN : Nat) (s_DRAW : Nat) (F_c1_elementData : Fld Z h0 c1 cA "elementData" "[Ljava/lang/Object;" (.ref c2)) (V_c2 : Arv Z h0 c2 kc3 (.object "java/lang/Object") 10 [(.ref s_WIN), (.ref s_DRAW), .null, .null, .null, .null, .null, .null, .null, .null] .null) :
    MC l Z y17 jdk_38_method_18_code 2 (some (.object "java/lang/Object")) ws rm_0_0_0_0 #[(.ref c1), (.int 1)] h0 (QV (.ref s_DRAW) h0 n0) := by
  refine own_met (plainFor_of_name pn17) fun p e s m below meth c s₁ X0 hx hZ Y hml hO hnm hlk hret e0 => f_cast (f' := mkF m 0 #[(rv c1), (iv 1)] []) (by first | (simp [entryFrame, mkF, argsToLocals, Value.category]; done) | rfl) ?_
  have N0 := Fr.nil n0
  refine aN X0 hx (hb Y d17_0) rfl rfl <| gF X0 hx hZ hO (w43 hw) Via.refl e0 F_c1_elementData (hb Y d17_1) fun T694 X694 e694 => ?_
  refine iN X694 hx (hb Y d17_4) rfl <| f_aald X694 hx hZ e694 V_c2 rfl (v := (.ref s_DRAW)) rfl (hb Y d17_5) ?_
  exact f_ret X694 hx hlk (i := .areturn) hret rfl (Or.inr (Or.inr (Or.inr (Or.inr ⟨rfl, rfl, rfl⟩)))) (hb Y d17_6) (QQ := (QV (.ref s_DRAW) h0 n0)) ⟨rfl, N0, e694⟩ (by decide) (by decide)
theorem q696 (l : Launch) (Z : State) (a0 : Array Value) (hw : HW a0 Z) (ws : List Jvm.Cond) (h0 : Heap) (n0 : Nat) (c1 : Nat) (c2 : Nat) (kc3 : ClassId) (s_WIN : Nat) (s_DRAW : Nat) (F_c1_s : Fld Z h0 c1 cA "size" "I" (.int 2)) (F_c1_elementData : Fld Z h0 c1 cA "elementData" "[Ljava/lang/Object;" (.ref c2)) (V_c2 : Arv Z h0 c2 kc3 (.object "java/lang/Object") 10 [(.ref s_WIN), (.ref s_DRAW), .null, .null, .null, .null, .null, .null, .null, .null] .null) (E_c1 : Exa Z h0 c1 cA) :
    MC l Z y14 jdk_38_method_20_code 2 (some (.object "java/lang/Object")) ws rm_2_0_0_27 #[(.ref c1), (.int 1)] h0 (QV (.ref s_DRAW) h0 n0) := by
  refine own_met (plainFor_of_name pn14) fun p e s m below meth c s₁ X0 hx hZ Y hml hO hnm hlk hret e0 => f_cast (f' := mkF m 0 #[(rv c1), (iv 1)] []) (by first | (simp [entryFrame, mkF, argsToLocals, Value.category]; done) | rfl) ?_
  have N0 := Fr.nil n0
  refine iN X0 hx (hb Y d14_0) rfl <| aN X0 hx (hb Y d14_1) rfl rfl <| gF X0 hx hZ hO (w58 hw) Via.refl e0 F_c1_s (hb Y d14_2) fun T690 X690 e690 => ?_
  refine f_stat X690 hx hZ hO (by rw [hml]; rfl) (w111 hw) (w112 hw) (w113 hw) (w114 hw) e690 (argsL := [(.int 1), (.int 2)]) (rest := []) (q609 l Z a0 hw [] h0 n0) (lenOf pd4 rfl) (hb Y d14_5) fun T691 L691 v691 X691 hQ691 => ?_
  obtain ⟨rfl, N691q, e691⟩ := hQ691
  have N691 := Fr.app N0 N691q
  refine f_pop X691 hx (hb Y d14_8) rfl <| aN X691 hx (hb Y d14_9) rfl rfl <| iN X691 hx (hb Y d14_10) rfl <| vV X691 hx hZ hO (by rw [hml]; rfl) (w119 hw) (w120 hw) (w122 hw) (w121 hw) (w23 hw) (w123 hw) e691 E_c1 (argsL := [(.int 1)]) (rest := []) (q695 l Z a0 hw [] h0 n0 c1 c2 kc3 s_WIN s_DRAW F_c1_elementData V_c2) (lenOf pd11 rfl) (hb Y d14_11) fun T693 L693 v693 X693 hQ693 => ?_
  obtain ⟨rfl, N693q, e693⟩ := hQ693
  have N693 := Fr.app N691 N693q
  exact f_ret X693 hx hlk (i := .areturn) hret rfl (Or.inr (Or.inr (Or.inr (Or.inr ⟨rfl, rfl, rfl⟩)))) (hb Y d14_14) (QQ := (QV (.ref s_DRAW) h0 n0)) ⟨rfl, N693, e693⟩ (by decide) (by decide)
theorem q700 (l : Launch) (Z : State) (a0 : Array Value) (hw : HW a0 Z) (ws : List Jvm.Cond) (h0 : Heap) (n0 : Nat) (s_DRAW : Nat) (F_s_DRAW_ordinal : Fld Z h0 s_DRAW "java/lang/Enum" "ordinal" "I" (.int 2)) :
    MC l Z y18 jdk_37_method_2_code 1 (some .int) ws rm_0_0_0_0 #[(.ref s_DRAW)] h0 (QV (.int 2) h0 n0) := by
  refine own_met (plainFor_of_name pn18) fun p e s m below meth c s₁ X0 hx hZ Y hml hO hnm hlk hret e0 => f_cast (f' := mkF m 0 #[(rv s_DRAW)] []) (by first | (simp [entryFrame, mkF, argsToLocals, Value.category]; done) | rfl) ?_
  have N0 := Fr.nil n0
  refine aN X0 hx (hb Y d18_0) rfl rfl <| gF X0 hx hZ hO (w133 hw) Via.refl e0 F_s_DRAW_ordinal (hb Y d18_1) fun T699 X699 e699 => ?_
  exact f_ret X699 hx hlk (i := .ireturn) hret rfl (Or.inl ⟨rfl, Or.inl rfl, _, rfl⟩) (hb Y d18_4) (QQ := (QV (.int 2) h0 n0)) ⟨rfl, N0, e699⟩ (by decide) (by decide)
theorem q721 (l : Launch) (Z : State) (a0 : Array Value) (hw : HW a0 Z) (ws : List Jvm.Cond) (h0 : Heap) (n0 : Nat) (c1 : Nat) (c2 : Nat) (kc3 : ClassId) (s_LOSS : Nat) (s_WIN : Nat) (F_c1_elementData : Fld Z h0 c1 cA "elementData" "[Ljava/lang/Object;" (.ref c2)) (V_c2 : Arv Z h0 c2 kc3 (.object "java/lang/Object") 10 [(.ref s_LOSS), (.ref s_WIN), .null, .null, .null, .null, .null, .null, .null, .null] .null) :
    MC l Z y17 jdk_38_method_18_code 2 (some (.object "java/lang/Object")) ws rm_0_0_0_0 #[(.ref c1), (.int 0)] h0 (QV (.ref s_LOSS) h0 n0) := by
  refine own_met (plainFor_of_name pn17) fun p e s m below meth c s₁ X0 hx hZ Y hml hO hnm hlk hret e0 => f_cast (f' := mkF m 0 #[(rv c1), (iv 0)] []) (by first | (simp [entryFrame, mkF, argsToLocals, Value.category]; done) | rfl) ?_
  have N0 := Fr.nil n0
  refine aN X0 hx (hb Y d17_0) rfl rfl <| gF X0 hx hZ hO (w43 hw) Via.refl e0 F_c1_elementData (hb Y d17_1) fun T720 X720 e720 => ?_
  refine iN X720 hx (hb Y d17_4) rfl <| f_aald X720 hx hZ e720 V_c2 rfl (v := (.ref s_LOSS)) rfl (hb Y d17_5) ?_
  exact f_ret X720 hx hlk (i := .areturn) hret rfl (Or.inr (Or.inr (Or.inr (Or.inr ⟨rfl, rfl, rfl⟩)))) (hb Y d17_6) (QQ := (QV (.ref s_LOSS) h0 n0)) ⟨rfl, N0, e720⟩ (by decide) (by decide)
theorem q722 (l : Launch) (Z : State) (a0 : Array Value) (hw : HW a0 Z) (ws : List Jvm.Cond) (h0 : Heap) (n0 : Nat) (c1 : Nat) (c2 : Nat) (kc3 : ClassId) (s_LOSS : Nat) (s_WIN : Nat) (F_c1_s : Fld Z h0 c1 cA "size" "I" (.int 2)) (F_c1_elementData : Fld Z h0 c1 cA "elementData" "[Ljava/lang/Object;" (.ref c2)) (V_c2 : Arv Z h0 c2 kc3 (.object "java/lang/Object") 10 [(.ref s_LOSS), (.ref s_WIN), .null, .null, .null, .null, .null, .null, .null, .null] .null) (E_c1 : Exa Z h0 c1 cA) :
    MC l Z y14 jdk_38_method_20_code 2 (some (.object "java/lang/Object")) ws rm_2_0_0_27 #[(.ref c1), (.int 0)] h0 (QV (.ref s_LOSS) h0 n0) := by
  refine own_met (plainFor_of_name pn14) fun p e s m below meth c s₁ X0 hx hZ Y hml hO hnm hlk hret e0 => f_cast (f' := mkF m 0 #[(rv c1), (iv 0)] []) (by first | (simp [entryFrame, mkF, argsToLocals, Value.category]; done) | rfl) ?_
  have N0 := Fr.nil n0
  refine iN X0 hx (hb Y d14_0) rfl <| aN X0 hx (hb Y d14_1) rfl rfl <| gF X0 hx hZ hO (w58 hw) Via.refl e0 F_c1_s (hb Y d14_2) fun T716 X716 e716 => ?_
  refine f_stat X716 hx hZ hO (by rw [hml]; rfl) (w111 hw) (w112 hw) (w113 hw) (w114 hw) e716 (argsL := [(.int 0), (.int 2)]) (rest := []) (q590 l Z a0 hw [] h0 n0) (lenOf pd4 rfl) (hb Y d14_5) fun T717 L717 v717 X717 hQ717 => ?_
  obtain ⟨rfl, N717q, e717⟩ := hQ717
  have N717 := Fr.app N0 N717q
  refine f_pop X717 hx (hb Y d14_8) rfl <| aN X717 hx (hb Y d14_9) rfl rfl <| iN X717 hx (hb Y d14_10) rfl <| vV X717 hx hZ hO (by rw [hml]; rfl) (w119 hw) (w120 hw) (w122 hw) (w121 hw) (w23 hw) (w123 hw) e717 E_c1 (argsL := [(.int 0)]) (rest := []) (q721 l Z a0 hw [] h0 n0 c1 c2 kc3 s_LOSS s_WIN F_c1_elementData V_c2) (lenOf pd11 rfl) (hb Y d14_11) fun T719 L719 v719 X719 hQ719 => ?_
  obtain ⟨rfl, N719q, e719⟩ := hQ719
  have N719 := Fr.app N717 N719q
  exact f_ret X719 hx hlk (i := .areturn) hret rfl (Or.inr (Or.inr (Or.inr (Or.inr ⟨rfl, rfl, rfl⟩)))) (hb Y d14_14) (QQ := (QV (.ref s_LOSS) h0 n0)) ⟨rfl, N719, e719⟩ (by decide) (by decide)
theorem q737 (l : Launch) (Z : State) (a0 : Array Value) (hw : HW a0 Z) (ws : List Jvm.Cond) (h0 : Heap) (n0 : Nat) (c1 : Nat) (c2 : Nat) (kc3 : ClassId) (s_LOSS : Nat) (s_WIN : Nat) (F_c1_elementData : Fld Z h0 c1 cA "elementData" "[Ljava/lang/Object;" (.ref c2)) (V_c2 : Arv Z h0 c2 kc3 (.object "java/lang/Object") 10 [(.ref s_LOSS), (.ref s_WIN), .null, .null, .null, .null, .null, .null, .null, .null] .null) :
    MC l Z y17 jdk_38_method_18_code 2 (some (.object "java/lang/Object")) ws rm_0_0_0_0 #[(.ref c1), (.int 1)] h0 (QV (.ref s_WIN) h0 n0) := by
  refine own_met (plainFor_of_name pn17) fun p e s m below meth c s₁ X0 hx hZ Y hml hO hnm hlk hret e0 => f_cast (f' := mkF m 0 #[(rv c1), (iv 1)] []) (by first | (simp [entryFrame, mkF, argsToLocals, Value.category]; done) | rfl) ?_
  have N0 := Fr.nil n0
  refine aN X0 hx (hb Y d17_0) rfl rfl <| gF X0 hx hZ hO (w43 hw) Via.refl e0 F_c1_elementData (hb Y d17_1) fun T736 X736 e736 => ?_
  refine iN X736 hx (hb Y d17_4) rfl <| f_aald X736 hx hZ e736 V_c2 rfl (v := (.ref s_WIN)) rfl (hb Y d17_5) ?_
  exact f_ret X736 hx hlk (i := .areturn) hret rfl (Or.inr (Or.inr (Or.inr (Or.inr ⟨rfl, rfl, rfl⟩)))) (hb Y d17_6) (QQ := (QV (.ref s_WIN) h0 n0)) ⟨rfl, N0, e736⟩ (by decide) (by decide)
theorem q738 (l : Launch) (Z : State) (a0 : Array Value) (hw : HW a0 Z) (ws : List Jvm.Cond) (h0 : Heap) (n0 : Nat) (c1 : Nat) (c2 : Nat) (kc3 : ClassId) (s_LOSS : Nat) (s_WIN : Nat) (F_c1_s : Fld Z h0 c1 cA "size" "I" (.int 2)) (F_c1_elementData : Fld Z h0 c1 cA "elementData" "[Ljava/lang/Object;" (.ref c2)) (V_c2 : Arv Z h0 c2 kc3 (.object "java/lang/Object") 10 [(.ref s_LOSS), (.ref s_WIN), .null, .null, .null, .null, .null, .null, .null, .null] .null) (E_c1 : Exa Z h0 c1 cA) :
    MC l Z y14 jdk_38_method_20_code 2 (some (.object "java/lang/Object")) ws rm_2_0_0_27 #[(.ref c1), (.int 1)] h0 (QV (.ref s_WIN) h0 n0) := by
  refine own_met (plainFor_of_name pn14) fun p e s m below meth c s₁ X0 hx hZ Y hml hO hnm hlk hret e0 => f_cast (f' := mkF m 0 #[(rv c1), (iv 1)] []) (by first | (simp [entryFrame, mkF, argsToLocals, Value.category]; done) | rfl) ?_
  have N0 := Fr.nil n0
  refine iN X0 hx (hb Y d14_0) rfl <| aN X0 hx (hb Y d14_1) rfl rfl <| gF X0 hx hZ hO (w58 hw) Via.refl e0 F_c1_s (hb Y d14_2) fun T732 X732 e732 => ?_
  refine f_stat X732 hx hZ hO (by rw [hml]; rfl) (w111 hw) (w112 hw) (w113 hw) (w114 hw) e732 (argsL := [(.int 1), (.int 2)]) (rest := []) (q609 l Z a0 hw [] h0 n0) (lenOf pd4 rfl) (hb Y d14_5) fun T733 L733 v733 X733 hQ733 => ?_
  obtain ⟨rfl, N733q, e733⟩ := hQ733
  have N733 := Fr.app N0 N733q
  refine f_pop X733 hx (hb Y d14_8) rfl <| aN X733 hx (hb Y d14_9) rfl rfl <| iN X733 hx (hb Y d14_10) rfl <| vV X733 hx hZ hO (by rw [hml]; rfl) (w119 hw) (w120 hw) (w122 hw) (w121 hw) (w23 hw) (w123 hw) e733 E_c1 (argsL := [(.int 1)]) (rest := []) (q737 l Z a0 hw [] h0 n0 c1 c2 kc3 s_LOSS s_WIN F_c1_elementData V_c2) (lenOf pd11 rfl) (hb Y d14_11) fun T735 L735 v735 X735 hQ735 => ?_
  obtain ⟨rfl, N735q, e735⟩ := hQ735
  have N735 := Fr.app N733 N735q
  exact f_ret X735 hx hlk (i := .areturn) hret rfl (Or.inr (Or.inr (Or.inr (Or.inr ⟨rfl, rfl, rfl⟩)))) (hb Y d14_14) (QQ := (QV (.ref s_WIN) h0 n0)) ⟨rfl, N735, e735⟩ (by decide) (by decide)
theorem q762 (l : Launch) (Z : State) (a0 : Array Value) (hw : HW a0 Z) (ws : List Jvm.Cond) (h0 : Heap) (n0 : Nat) (c1 : Nat) (c2 : Nat) (kc3 : ClassId) (s_LOSS : Nat) (F_c1_elementData : Fld Z h0 c1 cA "elementData" "[Ljava/lang/Object;" (.ref c2)) (V_c2 : Arv Z h0 c2 kc3 (.object "java/lang/Object") 10 [(.ref s_LOSS), (.ref s_LOSS), .null, .null, .null, .null, .null, .null, .null, .null] .null) :
    MC l Z y17 jdk_38_method_18_code 2 (some (.object "java/lang/Object")) ws rm_0_0_0_0 #[(.ref c1), (.int 0)] h0 (QV (.ref s_LOSS) h0 n0) := by
  refine own_met (plainFor_of_name pn17) fun p e s m below meth c s₁ X0 hx hZ Y hml hO hnm hlk hret e0 => f_cast (f' := mkF m 0 #[(rv c1), (iv 0)] []) (by first | (simp [entryFrame, mkF, argsToLocals, Value.category]; done) | rfl) ?_
  have N0 := Fr.nil n0
  refine aN X0 hx (hb Y d17_0) rfl rfl <| gF X0 hx hZ hO (w43 hw) Via.refl e0 F_c1_elementData (hb Y d17_1) fun T761 X761 e761 => ?_
  refine iN X761 hx (hb Y d17_4) rfl <| f_aald X761 hx hZ e761 V_c2 rfl (v := (.ref s_LOSS)) rfl (hb Y d17_5) ?_
  exact f_ret X761 hx hlk (i := .areturn) hret rfl (Or.inr (Or.inr (Or.inr (Or.inr ⟨rfl, rfl, rfl⟩)))) (hb Y d17_6) (QQ := (QV (.ref s_LOSS) h0 n0)) ⟨rfl, N0, e761⟩ (by decide) (by decide)
theorem q763 (l : Launch) (Z : State) (a0 : Array Value) (hw : HW a0 Z) (ws : List Jvm.Cond) (h0 : Heap) (n0 : Nat) (c1 : Nat) (c2 : Nat) (kc3 : ClassId) (s_LOSS : Nat) (F_c1_s : Fld Z h0 c1 cA "size" "I" (.int 2)) (F_c1_elementData : Fld Z h0 c1 cA "elementData" "[Ljava/lang/Object;" (.ref c2)) (V_c2 : Arv Z h0 c2 kc3 (.object "java/lang/Object") 10 [(.ref s_LOSS), (.ref s_LOSS), .null, .null, .null, .null, .null, .null, .null, .null] .null) (E_c1 : Exa Z h0 c1 cA) :
    MC l Z y14 jdk_38_method_20_code 2 (some (.object "java/lang/Object")) ws rm_2_0_0_27 #[(.ref c1), (.int 0)] h0 (QV (.ref s_LOSS) h0 n0) := by
  refine own_met (plainFor_of_name pn14) fun p e s m below meth c s₁ X0 hx hZ Y hml hO hnm hlk hret e0 => f_cast (f' := mkF m 0 #[(rv c1), (iv 0)] []) (by first | (simp [entryFrame, mkF, argsToLocals, Value.category]; done) | rfl) ?_
  have N0 := Fr.nil n0
  refine iN X0 hx (hb Y d14_0) rfl <| aN X0 hx (hb Y d14_1) rfl rfl <| gF X0 hx hZ hO (w58 hw) Via.refl e0 F_c1_s (hb Y d14_2) fun T757 X757 e757 => ?_
  refine f_stat X757 hx hZ hO (by rw [hml]; rfl) (w111 hw) (w112 hw) (w113 hw) (w114 hw) e757 (argsL := [(.int 0), (.int 2)]) (rest := []) (q590 l Z a0 hw [] h0 n0) (lenOf pd4 rfl) (hb Y d14_5) fun T758 L758 v758 X758 hQ758 => ?_
  obtain ⟨rfl, N758q, e758⟩ := hQ758
  have N758 := Fr.app N0 N758q
  refine f_pop X758 hx (hb Y d14_8) rfl <| aN X758 hx (hb Y d14_9) rfl rfl <| iN X758 hx (hb Y d14_10) rfl <| vV X758 hx hZ hO (by rw [hml]; rfl) (w119 hw) (w120 hw) (w122 hw) (w121 hw) (w23 hw) (w123 hw) e758 E_c1 (argsL := [(.int 0)]) (rest := []) (q762 l Z a0 hw [] h0 n0 c1 c2 kc3 s_LOSS F_c1_elementData V_c2) (lenOf pd11 rfl) (hb Y d14_11) fun T760 L760 v760 X760 hQ760 => ?_
  obtain ⟨rfl, N760q, e760⟩ := hQ760
  have N760 := Fr.app N758 N760q
  exact f_ret X760 hx hlk (i := .areturn) hret rfl (Or.inr (Or.inr (Or.inr (Or.inr ⟨rfl, rfl, rfl⟩)))) (hb Y d14_14) (QQ := (QV (.ref s_LOSS) h0 n0)) ⟨rfl, N760, e760⟩ (by decide) (by decide)
theorem q778 (l : Launch) (Z : State) (a0 : Array Value) (hw : HW a0 Z) (ws : List Jvm.Cond) (h0 : Heap) (n0 : Nat) (c1 : Nat) (c2 : Nat) (kc3 : ClassId) (s_LOSS : Nat) (F_c1_elementData : Fld Z h0 c1 cA "elementData" "[Ljava/lang/Object;" (.ref c2)) (V_c2 : Arv Z h0 c2 kc3 (.object "java/lang/Object") 10 [(.ref s_LOSS), (.ref s_LOSS), .null, .null, .null, .null, .null, .null, .null, .null] .null) :
    MC l Z y17 jdk_38_method_18_code 2 (some (.object "java/lang/Object")) ws rm_0_0_0_0 #[(.ref c1), (.int 1)] h0 (QV (.ref s_LOSS) h0 n0) := by
  refine own_met (plainFor_of_name pn17) fun p e s m below meth c s₁ X0 hx hZ Y hml hO hnm hlk hret e0 => f_cast (f' := mkF m 0 #[(rv c1), (iv 1)] []) (by first | (simp [entryFrame, mkF, argsToLocals, Value.category]; done) | rfl) ?_
  have N0 := Fr.nil n0
  refine aN X0 hx (hb Y d17_0) rfl rfl <| gF X0 hx hZ hO (w43 hw) Via.refl e0 F_c1_elementData (hb Y d17_1) fun T777 X777 e777 => ?_
  refine iN X777 hx (hb Y d17_4) rfl <| f_aald X777 hx hZ e777 V_c2 rfl (v := (.ref s_LOSS)) rfl (hb Y d17_5) ?_
  exact f_ret X777 hx hlk (i := .areturn) hret rfl (Or.inr (Or.inr (Or.inr (Or.inr ⟨rfl, rfl, rfl⟩)))) (hb Y d17_6) (QQ := (QV (.ref s_LOSS) h0 n0)) ⟨rfl, N0, e777⟩ (by decide) (by decide)
theorem q779 (l : Launch) (Z : State) (a0 : Array Value) (hw : HW a0 Z) (ws : List Jvm.Cond) (h0 : Heap) (n0 : Nat) (c1 : Nat) (c2 : Nat) (kc3 : ClassId) (s_LOSS : Nat) (F_c1_s : Fld Z h0 c1 cA "size" "I" (.int 2)) (F_c1_elementData : Fld Z h0 c1 cA "elementData" "[Ljava/lang/Object;" (.ref c2)) (V_c2 : Arv Z h0 c2 kc3 (.object "java/lang/Object") 10 [(.ref s_LOSS), (.ref s_LOSS), .null, .null, .null, .null, .null, .null, .null, .null] .null) (E_c1 : Exa Z h0 c1 cA) :
    MC l Z y14 jdk_38_method_20_code 2 (some (.object "java/lang/Object")) ws rm_2_0_0_27 #[(.ref c1), (.int 1)] h0 (QV (.ref s_LOSS) h0 n0) := by
  refine own_met (plainFor_of_name pn14) fun p e s m below meth c s₁ X0 hx hZ Y hml hO hnm hlk hret e0 => f_cast (f' := mkF m 0 #[(rv c1), (iv 1)] []) (by first | (simp [entryFrame, mkF, argsToLocals, Value.category]; done) | rfl) ?_
  have N0 := Fr.nil n0
  refine iN X0 hx (hb Y d14_0) rfl <| aN X0 hx (hb Y d14_1) rfl rfl <| gF X0 hx hZ hO (w58 hw) Via.refl e0 F_c1_s (hb Y d14_2) fun T773 X773 e773 => ?_
  refine f_stat X773 hx hZ hO (by rw [hml]; rfl) (w111 hw) (w112 hw) (w113 hw) (w114 hw) e773 (argsL := [(.int 1), (.int 2)]) (rest := []) (q609 l Z a0 hw [] h0 n0) (lenOf pd4 rfl) (hb Y d14_5) fun T774 L774 v774 X774 hQ774 => ?_
  obtain ⟨rfl, N774q, e774⟩ := hQ774
  have N774 := Fr.app N0 N774q
  refine f_pop X774 hx (hb Y d14_8) rfl <| aN X774 hx (hb Y d14_9) rfl rfl <| iN X774 hx (hb Y d14_10) rfl <| vV X774 hx hZ hO (by rw [hml]; rfl) (w119 hw) (w120 hw) (w122 hw) (w121 hw) (w23 hw) (w123 hw) e774 E_c1 (argsL := [(.int 1)]) (rest := []) (q778 l Z a0 hw [] h0 n0 c1 c2 kc3 s_LOSS F_c1_elementData V_c2) (lenOf pd11 rfl) (hb Y d14_11) fun T776 L776 v776 X776 hQ776 => ?_
  obtain ⟨rfl, N776q, e776⟩ := hQ776
  have N776 := Fr.app N774 N776q
  exact f_ret X776 hx hlk (i := .areturn) hret rfl (Or.inr (Or.inr (Or.inr (Or.inr ⟨rfl, rfl, rfl⟩)))) (hb Y d14_14) (QQ := (QV (.ref s_LOSS) h0 n0)) ⟨rfl, N776, e776⟩ (by decide) (by decide)
theorem q803 (l : Launch) (Z : State) (a0 : Array Value) (hw : HW a0 Z) (ws : List Jvm.Cond) (h0 : Heap) (n0 : Nat) (c1 : Nat) (c2 : Nat) (kc3 : ClassId) (s_LOSS : Nat) (s_DRAW : Nat) (F_c1_elementData : Fld Z h0 c1 cA "elementData" "[Ljava/lang/Object;" (.ref c2)) (V_c2 : Arv Z h0 c2 kc3 (.object "java/lang/Object") 10 [(.ref s_LOSS), (.ref s_DRAW), .null, .null, .null, .null, .null, .null, .null, .null] .null) :
    MC l Z y17 jdk_38_method_18_code 2 (some (.object "java/lang/Object")) ws rm_0_0_0_0 #[(.ref c1), (.int 0)] h0 (QV (.ref s_LOSS) h0 n0) := by
  refine own_met (plainFor_of_name pn17) fun p e s m below meth c s₁ X0 hx hZ Y hml hO hnm hlk hret e0 => f_cast (f' := mkF m 0 #[(rv c1), (iv 0)] []) (by first | (simp [entryFrame, mkF, argsToLocals, Value.category]; done) | rfl) ?_
  have N0 := Fr.nil n0
  refine aN X0 hx (hb Y d17_0) rfl rfl <| gF X0 hx hZ hO (w43 hw) Via.refl e0 F_c1_elementData (hb Y d17_1) fun T802 X802 e802 => ?_
  refine iN X802 hx (hb Y d17_4) rfl <| f_aald X802 hx hZ e802 V_c2 rfl (v := (.ref s_LOSS)) rfl (hb Y d17_5) ?_
  exact f_ret X802 hx hlk (i := .areturn) hret rfl (Or.inr (Or.inr (Or.inr (Or.inr ⟨rfl, rfl, rfl⟩)))) (hb Y d17_6) (QQ := (QV (.ref s_LOSS) h0 n0)) ⟨rfl, N0, e802⟩ (by decide) (by decide)
theorem q804 (l : Launch) (Z : State) (a0 : Array Value) (hw : HW a0 Z) (ws : List Jvm.Cond) (h0 : Heap) (n0 : Nat) (c1 : Nat) (c2 : Nat) (kc3 : ClassId) (s_LOSS : Nat) (s_DRAW : Nat) (F_c1_s : Fld Z h0 c1 cA "size" "I" (.int 2)) (F_c1_elementData : Fld Z h0 c1 cA "elementData" "[Ljava/lang/Object;" (.ref c2)) (V_c2 : Arv Z h0 c2 kc3 (.object "java/lang/Object") 10 [(.ref s_LOSS), (.ref s_DRAW), .null, .null, .null, .null, .null, .null, .null, .null] .null) (E_c1 : Exa Z h0 c1 cA) :
    MC l Z y14 jdk_38_method_20_code 2 (some (.object "java/lang/Object")) ws rm_2_0_0_27 #[(.ref c1), (.int 0)] h0 (QV (.ref s_LOSS) h0 n0) := by
  refine own_met (plainFor_of_name pn14) fun p e s m below meth c s₁ X0 hx hZ Y hml hO hnm hlk hret e0 => f_cast (f' := mkF m 0 #[(rv c1), (iv 0)] []) (by first | (simp [entryFrame, mkF, argsToLocals, Value.category]; done) | rfl) ?_
  have N0 := Fr.nil n0
  refine iN X0 hx (hb Y d14_0) rfl <| aN X0 hx (hb Y d14_1) rfl rfl <| gF X0 hx hZ hO (w58 hw) Via.refl e0 F_c1_s (hb Y d14_2) fun T798 X798 e798 => ?_
  refine f_stat X798 hx hZ hO (by rw [hml]; rfl) (w111 hw) (w112 hw) (w113 hw) (w114 hw) e798 (argsL := [(.int 0), (.int 2)]) (rest := []) (q590 l Z a0 hw [] h0 n0) (lenOf pd4 rfl) (hb Y d14_5) fun T799 L799 v799 X799 hQ799 => ?_
  obtain ⟨rfl, N799q, e799⟩ := hQ799
  have N799 := Fr.app N0 N799q
  refine f_pop X799 hx (hb Y d14_8) rfl <| aN X799 hx (hb Y d14_9) rfl rfl <| iN X799 hx (hb Y d14_10) rfl <| vV X799 hx hZ hO (by rw [hml]; rfl) (w119 hw) (w120 hw) (w122 hw) (w121 hw) (w23 hw) (w123 hw) e799 E_c1 (argsL := [(.int 0)]) (rest := []) (q803 l Z a0 hw [] h0 n0 c1 c2 kc3 s_LOSS s_DRAW F_c1_elementData V_c2) (lenOf pd11 rfl) (hb Y d14_11) fun T801 L801 v801 X801 hQ801 => ?_
  obtain ⟨rfl, N801q, e801⟩ := hQ801
  have N801 := Fr.app N799 N801q
  exact f_ret X801 hx hlk (i := .areturn) hret rfl (Or.inr (Or.inr (Or.inr (Or.inr ⟨rfl, rfl, rfl⟩)))) (hb Y d14_14) (QQ := (QV (.ref s_LOSS) h0 n0)) ⟨rfl, N801, e801⟩ (by decide) (by decide)
theorem q819 (l : Launch) (Z : State) (a0 : Array Value) (hw : HW a0 Z) (ws : List Jvm.Cond) (h0 : Heap) (n0 : Nat) (c1 : Nat) (c2 : Nat) (kc3 : ClassId) (s_LOSS : Nat) (s_DRAW : Nat) (F_c1_elementData : Fld Z h0 c1 cA "elementData" "[Ljava/lang/Object;" (.ref c2)) (V_c2 : Arv Z h0 c2 kc3 (.object "java/lang/Object") 10 [(.ref s_LOSS), (.ref s_DRAW), .null, .null, .null, .null, .null, .null, .null, .null] .null) :
    MC l Z y17 jdk_38_method_18_code 2 (some (.object "java/lang/Object")) ws rm_0_0_0_0 #[(.ref c1), (.int 1)] h0 (QV (.ref s_DRAW) h0 n0) := by
  refine own_met (plainFor_of_name pn17) fun p e s m below meth c s₁ X0 hx hZ Y hml hO hnm hlk hret e0 => f_cast (f' := mkF m 0 #[(rv c1), (iv 1)] []) (by first | (simp [entryFrame, mkF, argsToLocals, Value.category]; done) | rfl) ?_
  have N0 := Fr.nil n0
  refine aN X0 hx (hb Y d17_0) rfl rfl <| gF X0 hx hZ hO (w43 hw) Via.refl e0 F_c1_elementData (hb Y d17_1) fun T818 X818 e818 => ?_
  refine iN X818 hx (hb Y d17_4) rfl <| f_aald X818 hx hZ e818 V_c2 rfl (v := (.ref s_DRAW)) rfl (hb Y d17_5) ?_
  exact f_ret X818 hx hlk (i := .areturn) hret rfl (Or.inr (Or.inr (Or.inr (Or.inr ⟨rfl, rfl, rfl⟩)))) (hb Y d17_6) (QQ := (QV (.ref s_DRAW) h0 n0)) ⟨rfl, N0, e818⟩ (by decide) (by decide)
theorem q820 (l : Launch) (Z : State) (a0 : Array Value) (hw : HW a0 Z) (ws : List Jvm.Cond) (h0 : Heap) (n0 : Nat) (c1 : Nat) (c2 : Nat) (kc3 : ClassId) (s_LOSS : Nat) (s_DRAW : Nat) (F_c1_s : Fld Z h0 c1 cA "size" "I" (.int 2)) (F_c1_elementData : Fld Z h0 c1 cA "elementData" "[Ljava/lang/Object;" (.ref c2)) (V_c2 : Arv Z h0 c2 kc3 (.object "java/lang/Object") 10 [(.ref s_LOSS), (.ref s_DRAW), .null, .null, .null, .null, .null, .null, .null, .null] .null) (E_c1 : Exa Z h0 c1 cA) :
    MC l Z y14 jdk_38_method_20_code 2 (some (.object "java/lang/Object")) ws rm_2_0_0_27 #[(.ref c1), (.int 1)] h0 (QV (.ref s_DRAW) h0 n0) := by
  refine own_met (plainFor_of_name pn14) fun p e s m below meth c s₁ X0 hx hZ Y hml hO hnm hlk hret e0 => f_cast (f' := mkF m 0 #[(rv c1), (iv 1)] []) (by first | (simp [entryFrame, mkF, argsToLocals, Value.category]; done) | rfl) ?_
  have N0 := Fr.nil n0
  refine iN X0 hx (hb Y d14_0) rfl <| aN X0 hx (hb Y d14_1) rfl rfl <| gF X0 hx hZ hO (w58 hw) Via.refl e0 F_c1_s (hb Y d14_2) fun T814 X814 e814 => ?_
  refine f_stat X814 hx hZ hO (by rw [hml]; rfl) (w111 hw) (w112 hw) (w113 hw) (w114 hw) e814 (argsL := [(.int 1), (.int 2)]) (rest := []) (q609 l Z a0 hw [] h0 n0) (lenOf pd4 rfl) (hb Y d14_5) fun T815 L815 v815 X815 hQ815 => ?_
  obtain ⟨rfl, N815q, e815⟩ := hQ815
  have N815 := Fr.app N0 N815q
  refine f_pop X815 hx (hb Y d14_8) rfl <| aN X815 hx (hb Y d14_9) rfl rfl <| iN X815 hx (hb Y d14_10) rfl <| vV X815 hx hZ hO (by rw [hml]; rfl) (w119 hw) (w120 hw) (w122 hw) (w121 hw) (w23 hw) (w123 hw) e815 E_c1 (argsL := [(.int 1)]) (rest := []) (q819 l Z a0 hw [] h0 n0 c1 c2 kc3 s_LOSS s_DRAW F_c1_elementData V_c2) (lenOf pd11 rfl) (hb Y d14_11) fun T817 L817 v817 X817 hQ817 => ?_
  obtain ⟨rfl, N817q, e817⟩ := hQ817
  have N817 := Fr.app N815 N817q
  exact f_ret X817 hx hlk (i := .areturn) hret rfl (Or.inr (Or.inr (Or.inr (Or.inr ⟨rfl, rfl, rfl⟩)))) (hb Y d14_14) (QQ := (QV (.ref s_DRAW) h0 n0)) ⟨rfl, N817, e817⟩ (by decide) (by decide)
theorem q844 (l : Launch) (Z : State) (a0 : Array Value) (hw : HW a0 Z) (ws : List Jvm.Cond) (h0 : Heap) (n0 : Nat) (c1 : Nat) (c2 : Nat) (kc3 : ClassId) (s_DRAW : Nat) (s_WIN : Nat) (F_c1_elementData : Fld Z h0 c1 cA "elementData" "[Ljava/lang/Object;" (.ref c2)) (V_c2 : Arv Z h0 c2 kc3 (.object "java/lang/Object") 10 [(.ref s_DRAW), (.ref s_WIN), .null, .null, .null, .null, .null, .null, .null, .null] .null) :
    MC l Z y17 jdk_38_method_18_code 2 (some (.object "java/lang/Object")) ws rm_0_0_0_0 #[(.ref c1), (.int 0)] h0 (QV (.ref s_DRAW) h0 n0) := by
  refine own_met (plainFor_of_name pn17) fun p e s m below meth c s₁ X0 hx hZ Y hml hO hnm hlk hret e0 => f_cast (f' := mkF m 0 #[(rv c1), (iv 0)] []) (by first | (simp [entryFrame, mkF, argsToLocals, Value.category]; done) | rfl) ?_
  have N0 := Fr.nil n0
  refine aN X0 hx (hb Y d17_0) rfl rfl <| gF X0 hx hZ hO (w43 hw) Via.refl e0 F_c1_elementData (hb Y d17_1) fun T843 X843 e843 => ?_
  refine iN X843 hx (hb Y d17_4) rfl <| f_aald X843 hx hZ e843 V_c2 rfl (v := (.ref s_DRAW)) rfl (hb Y d17_5) ?_
  exact f_ret X843 hx hlk (i := .areturn) hret rfl (Or.inr (Or.inr (Or.inr (Or.inr ⟨rfl, rfl, rfl⟩)))) (hb Y d17_6) (QQ := (QV (.ref s_DRAW) h0 n0)) ⟨rfl, N0, e843⟩ (by decide) (by decide)
theorem q845 (l : Launch) (Z : State) (a0 : Array Value) (hw : HW a0 Z) (ws : List Jvm.Cond) (h0 : Heap) (n0 : Nat) (c1 : Nat) (c2 : Nat) (kc3 : ClassId) (s_DRAW : Nat) (s_WIN : Nat) (F_c1_s : Fld Z h0 c1 cA "size" "I" (.int 2)) (F_c1_elementData : Fld Z h0 c1 cA "elementData" "[Ljava/lang/Object;" (.ref c2)) (V_c2 : Arv Z h0 c2 kc3 (.object "java/lang/Object") 10 [(.ref s_DRAW), (.ref s_WIN), .null, .null, .null, .null, .null, .null, .null, .null] .null) (E_c1 : Exa Z h0 c1 cA) :
    MC l Z y14 jdk_38_method_20_code 2 (some (.object "java/lang/Object")) ws rm_2_0_0_27 #[(.ref c1), (.int 0)] h0 (QV (.ref s_DRAW) h0 n0) := by
  refine own_met (plainFor_of_name pn14) fun p e s m below meth c s₁ X0 hx hZ Y hml hO hnm hlk hret e0 => f_cast (f' := mkF m 0 #[(rv c1), (iv 0)] []) (by first | (simp [entryFrame, mkF, argsToLocals, Value.category]; done) | rfl) ?_
  have N0 := Fr.nil n0
  refine iN X0 hx (hb Y d14_0) rfl <| aN X0 hx (hb Y d14_1) rfl rfl <| gF X0 hx hZ hO (w58 hw) Via.refl e0 F_c1_s (hb Y d14_2) fun T839 X839 e839 => ?_
  refine f_stat X839 hx hZ hO (by rw [hml]; rfl) (w111 hw) (w112 hw) (w113 hw) (w114 hw) e839 (argsL := [(.int 0), (.int 2)]) (rest := []) (q590 l Z a0 hw [] h0 n0) (lenOf pd4 rfl) (hb Y d14_5) fun T840 L840 v840 X840 hQ840 => ?_
  obtain ⟨rfl, N840q, e840⟩ := hQ840
  have N840 := Fr.app N0 N840q
  refine f_pop X840 hx (hb Y d14_8) rfl <| aN X840 hx (hb Y d14_9) rfl rfl <| iN X840 hx (hb Y d14_10) rfl <| vV X840 hx hZ hO (by rw [hml]; rfl) (w119 hw) (w120 hw) (w122 hw) (w121 hw) (w23 hw) (w123 hw) e840 E_c1 (argsL := [(.int 0)]) (rest := []) (q844 l Z a0 hw [] h0 n0 c1 c2 kc3 s_DRAW s_WIN F_c1_elementData V_c2) (lenOf pd11 rfl) (hb Y d14_11) fun T842 L842 v842 X842 hQ842 => ?_
  obtain ⟨rfl, N842q, e842⟩ := hQ842
  have N842 := Fr.app N840 N842q
  exact f_ret X842 hx hlk (i := .areturn) hret rfl (Or.inr (Or.inr (Or.inr (Or.inr ⟨rfl, rfl, rfl⟩)))) (hb Y d14_14) (QQ := (QV (.ref s_DRAW) h0 n0)) ⟨rfl, N842, e842⟩ (by decide) (by decide)
theorem q860 (l : Launch) (Z : State) (a0 : Array Value) (hw : HW a0 Z) (ws : List Jvm.Cond) (h0 : Heap) (n0 : Nat) (c1 : Nat) (c2 : Nat) (kc3 : ClassId) (s_DRAW : Nat) (s_WIN : Nat) (F_c1_elementData : Fld Z h0 c1 cA "elementData" "[Ljava/lang/Object;" (.ref c2)) (V_c2 : Arv Z h0 c2 kc3 (.object "java/lang/Object") 10 [(.ref s_DRAW), (.ref s_WIN), .null, .null, .null, .null, .null, .null, .null, .null] .null) :
    MC l Z y17 jdk_38_method_18_code 2 (some (.object "java/lang/Object")) ws rm_0_0_0_0 #[(.ref c1), (.int 1)] h0 (QV (.ref s_WIN) h0 n0) := by
  refine own_met (plainFor_of_name pn17) fun p e s m below meth c s₁ X0 hx hZ Y hml hO hnm hlk hret e0 => f_cast (f' := mkF m 0 #[(rv c1), (iv 1)] []) (by first | (simp [entryFrame, mkF, argsToLocals, Value.category]; done) | rfl) ?_
  have N0 := Fr.nil n0
  refine aN X0 hx (hb Y d17_0) rfl rfl <| gF X0 hx hZ hO (w43 hw) Via.refl e0 F_c1_elementData (hb Y d17_1) fun T859 X859 e859 => ?_
  refine iN X859 hx (hb Y d17_4) rfl <| f_aald X859 hx hZ e859 V_c2 rfl (v := (.ref s_WIN)) rfl (hb Y d17_5) ?_
  exact f_ret X859 hx hlk (i := .areturn) hret rfl (Or.inr (Or.inr (Or.inr (Or.inr ⟨rfl, rfl, rfl⟩)))) (hb Y d17_6) (QQ := (QV (.ref s_WIN) h0 n0)) ⟨rfl, N0, e859⟩ (by decide) (by decide)
theorem q861 (l : Launch) (Z : State) (a0 : Array Value) (hw : HW a0 Z) (ws : List Jvm.Cond) (h0 : Heap) (n0 : Nat) (c1 : Nat) (c2 : Nat) (kc3 : ClassId) (s_DRAW : Nat) (s_WIN : Nat) (F_c1_s : Fld Z h0 c1 cA "size" "I" (.int 2)) (F_c1_elementData : Fld Z h0 c1 cA "elementData" "[Ljava/lang/Object;" (.ref c2)) (V_c2 : Arv Z h0 c2 kc3 (.object "java/lang/Object") 10 [(.ref s_DRAW), (.ref s_WIN), .null, .null, .null, .null, .null, .null, .null, .null] .null) (E_c1 : Exa Z h0 c1 cA) :
    MC l Z y14 jdk_38_method_20_code 2 (some (.object "java/lang/Object")) ws rm_2_0_0_27 #[(.ref c1), (.int 1)] h0 (QV (.ref s_WIN) h0 n0) := by
  refine own_met (plainFor_of_name pn14) fun p e s m below meth c s₁ X0 hx hZ Y hml hO hnm hlk hret e0 => f_cast (f' := mkF m 0 #[(rv c1), (iv 1)] []) (by first | (simp [entryFrame, mkF, argsToLocals, Value.category]; done) | rfl) ?_
  have N0 := Fr.nil n0
  refine iN X0 hx (hb Y d14_0) rfl <| aN X0 hx (hb Y d14_1) rfl rfl <| gF X0 hx hZ hO (w58 hw) Via.refl e0 F_c1_s (hb Y d14_2) fun T855 X855 e855 => ?_
  refine f_stat X855 hx hZ hO (by rw [hml]; rfl) (w111 hw) (w112 hw) (w113 hw) (w114 hw) e855 (argsL := [(.int 1), (.int 2)]) (rest := []) (q609 l Z a0 hw [] h0 n0) (lenOf pd4 rfl) (hb Y d14_5) fun T856 L856 v856 X856 hQ856 => ?_
  obtain ⟨rfl, N856q, e856⟩ := hQ856
  have N856 := Fr.app N0 N856q
  refine f_pop X856 hx (hb Y d14_8) rfl <| aN X856 hx (hb Y d14_9) rfl rfl <| iN X856 hx (hb Y d14_10) rfl <| vV X856 hx hZ hO (by rw [hml]; rfl) (w119 hw) (w120 hw) (w122 hw) (w121 hw) (w23 hw) (w123 hw) e856 E_c1 (argsL := [(.int 1)]) (rest := []) (q860 l Z a0 hw [] h0 n0 c1 c2 kc3 s_DRAW s_WIN F_c1_elementData V_c2) (lenOf pd11 rfl) (hb Y d14_11) fun T858 L858 v858 X858 hQ858 => ?_
  obtain ⟨rfl, N858q, e858⟩ := hQ858
  have N858 := Fr.app N856 N858q
  exact f_ret X858 hx hlk (i := .areturn) hret rfl (Or.inr (Or.inr (Or.inr (Or.inr ⟨rfl, rfl, rfl⟩)))) (hb Y d14_14) (QQ := (QV (.ref s_WIN) h0 n0)) ⟨rfl, N858, e858⟩ (by decide) (by decide)
theorem q885 (l : Launch) (Z : State) (a0 : Array Value) (hw : HW a0 Z) (ws : List Jvm.Cond) (h0 : Heap) (n0 : Nat) (c1 : Nat) (c2 : Nat) (kc3 : ClassId) (s_DRAW : Nat) (s_LOSS : Nat) (F_c1_elementData : Fld Z h0 c1 cA "elementData" "[Ljava/lang/Object;" (.ref c2)) (V_c2 : Arv Z h0 c2 kc3 (.object "java/lang/Object") 10 [(.ref s_DRAW), (.ref s_LOSS), .null, .null, .null, .null, .null, .null, .null, .null] .null) :
    MC l Z y17 jdk_38_method_18_code 2 (some (.object "java/lang/Object")) ws rm_0_0_0_0 #[(.ref c1), (.int 0)] h0 (QV (.ref s_DRAW) h0 n0) := by
  refine own_met (plainFor_of_name pn17) fun p e s m below meth c s₁ X0 hx hZ Y hml hO hnm hlk hret e0 => f_cast (f' := mkF m 0 #[(rv c1), (iv 0)] []) (by first | (simp [entryFrame, mkF, argsToLocals, Value.category]; done) | rfl) ?_
  have N0 := Fr.nil n0
  refine aN X0 hx (hb Y d17_0) rfl rfl <| gF X0 hx hZ hO (w43 hw) Via.refl e0 F_c1_elementData (hb Y d17_1) fun T884 X884 e884 => ?_
  refine iN X884 hx (hb Y d17_4) rfl <| f_aald X884 hx hZ e884 V_c2 rfl (v := (.ref s_DRAW)) rfl (hb Y d17_5) ?_
  exact f_ret X884 hx hlk (i := .areturn) hret rfl (Or.inr (Or.inr (Or.inr (Or.inr ⟨rfl, rfl, rfl⟩)))) (hb Y d17_6) (QQ := (QV (.ref s_DRAW) h0 n0)) ⟨rfl, N0, e884⟩ (by decide) (by decide)
theorem q886 (l : Launch) (Z : State) (a0 : Array Value) (hw : HW a0 Z) (ws : List Jvm.Cond) (h0 : Heap) (n0 : Nat) (c1 : Nat) (c2 : Nat) (kc3 : ClassId) (s_DRAW : Nat) (s_LOSS : Nat) (F_c1_s : Fld Z h0 c1 cA "size" "I" (.int 2)) (F_c1_elementData : Fld Z h0 c1 cA "elementData" "[Ljava/lang/Object;" (.ref c2)) (V_c2 : Arv Z h0 c2 kc3 (.object "java/lang/Object") 10 [(.ref s_DRAW), (.ref s_LOSS), .null, .null, .null, .null, .null, .null, .null, .null] .null) (E_c1 : Exa Z h0 c1 cA) :
    MC l Z y14 jdk_38_method_20_code 2 (some (.object "java/lang/Object")) ws rm_2_0_0_27 #[(.ref c1), (.int 0)] h0 (QV (.ref s_DRAW) h0 n0) := by
  refine own_met (plainFor_of_name pn14) fun p e s m below meth c s₁ X0 hx hZ Y hml hO hnm hlk hret e0 => f_cast (f' := mkF m 0 #[(rv c1), (iv 0)] []) (by first | (simp [entryFrame, mkF, argsToLocals, Value.category]; done) | rfl) ?_
  have N0 := Fr.nil n0
  refine iN X0 hx (hb Y d14_0) rfl <| aN X0 hx (hb Y d14_1) rfl rfl <| gF X0 hx hZ hO (w58 hw) Via.refl e0 F_c1_s (hb Y d14_2) fun T880 X880 e880 => ?_
  refine f_stat X880 hx hZ hO (by rw [hml]; rfl) (w111 hw) (w112 hw) (w113 hw) (w114 hw) e880 (argsL := [(.int 0), (.int 2)]) (rest := []) (q590 l Z a0 hw [] h0 n0) (lenOf pd4 rfl) (hb Y d14_5) fun T881 L881 v881 X881 hQ881 => ?_
  obtain ⟨rfl, N881q, e881⟩ := hQ881
  have N881 := Fr.app N0 N881q
  refine f_pop X881 hx (hb Y d14_8) rfl <| aN X881 hx (hb Y d14_9) rfl rfl <| iN X881 hx (hb Y d14_10) rfl <| vV X881 hx hZ hO (by rw [hml]; rfl) (w119 hw) (w120 hw) (w122 hw) (w121 hw) (w23 hw) (w123 hw) e881 E_c1 (argsL := [(.int 0)]) (rest := []) (q885 l Z a0 hw [] h0 n0 c1 c2 kc3 s_DRAW s_LOSS F_c1_elementData V_c2) (lenOf pd11 rfl) (hb Y d14_11) fun T883 L883 v883 X883 hQ883 => ?_
  obtain ⟨rfl, N883q, e883⟩ := hQ883
  have N883 := Fr.app N881 N883q
  exact f_ret X883 hx hlk (i := .areturn) hret rfl (Or.inr (Or.inr (Or.inr (Or.inr ⟨rfl, rfl, rfl⟩)))) (hb Y d14_14) (QQ := (QV (.ref s_DRAW) h0 n0)) ⟨rfl, N883, e883⟩ (by decide) (by decide)
theorem q901 (l : Launch) (Z : State) (a0 : Array Value) (hw : HW a0 Z) (ws : List Jvm.Cond) (h0 : Heap) (n0 : Nat) (c1 : Nat) (c2 : Nat) (kc3 : ClassId) (s_DRAW : Nat) (s_LOSS : Nat) (F_c1_elementData : Fld Z h0 c1 cA "elementData" "[Ljava/lang/Object;" (.ref c2)) (V_c2 : Arv Z h0 c2 kc3 (.object "java/lang/Object") 10 [(.ref s_DRAW), (.ref s_LOSS), .null, .null, .null, .null, .null, .null, .null, .null] .null) :
    MC l Z y17 jdk_38_method_18_code 2 (some (.object "java/lang/Object")) ws rm_0_0_0_0 #[(.ref c1), (.int 1)] h0 (QV (.ref s_LOSS) h0 n0) := by
  refine own_met (plainFor_of_name pn17) fun p e s m below meth c s₁ X0 hx hZ Y hml hO hnm hlk hret e0 => f_cast (f' := mkF m 0 #[(rv c1), (iv 1)] []) (by first | (simp [entryFrame, mkF, argsToLocals, Value.category]; done) | rfl) ?_
  have N0 := Fr.nil n0
  refine aN X0 hx (hb Y d17_0) rfl rfl <| gF X0 hx hZ hO (w43 hw) Via.refl e0 F_c1_elementData (hb Y d17_1) fun T900 X900 e900 => ?_
  refine iN X900 hx (hb Y d17_4) rfl <| f_aald X900 hx hZ e900 V_c2 rfl (v := (.ref s_LOSS)) rfl (hb Y d17_5) ?_
  exact f_ret X900 hx hlk (i := .areturn) hret rfl (Or.inr (Or.inr (Or.inr (Or.inr ⟨rfl, rfl, rfl⟩)))) (hb Y d17_6) (QQ := (QV (.ref s_LOSS) h0 n0)) ⟨rfl, N0, e900⟩ (by decide) (by decide)
theorem q902 (l : Launch) (Z : State) (a0 : Array Value) (hw : HW a0 Z) (ws : List Jvm.Cond) (h0 : Heap) (n0 : Nat) (c1 : Nat) (c2 : Nat) (kc3 : ClassId) (s_DRAW : Nat) (s_LOSS : Nat) (F_c1_s : Fld Z h0 c1 cA "size" "I" (.int 2)) (F_c1_elementData : Fld Z h0 c1 cA "elementData" "[Ljava/lang/Object;" (.ref c2)) (V_c2 : Arv Z h0 c2 kc3 (.object "java/lang/Object") 10 [(.ref s_DRAW), (.ref s_LOSS), .null, .null, .null, .null, .null, .null, .null, .null] .null) (E_c1 : Exa Z h0 c1 cA) :
    MC l Z y14 jdk_38_method_20_code 2 (some (.object "java/lang/Object")) ws rm_2_0_0_27 #[(.ref c1), (.int 1)] h0 (QV (.ref s_LOSS) h0 n0) := by
  refine own_met (plainFor_of_name pn14) fun p e s m below meth c s₁ X0 hx hZ Y hml hO hnm hlk hret e0 => f_cast (f' := mkF m 0 #[(rv c1), (iv 1)] []) (by first | (simp [entryFrame, mkF, argsToLocals, Value.category]; done) | rfl) ?_
  have N0 := Fr.nil n0
  refine iN X0 hx (hb Y d14_0) rfl <| aN X0 hx (hb Y d14_1) rfl rfl <| gF X0 hx hZ hO (w58 hw) Via.refl e0 F_c1_s (hb Y d14_2) fun T896 X896 e896 => ?_
  refine f_stat X896 hx hZ hO (by rw [hml]; rfl) (w111 hw) (w112 hw) (w113 hw) (w114 hw) e896 (argsL := [(.int 1), (.int 2)]) (rest := []) (q609 l Z a0 hw [] h0 n0) (lenOf pd4 rfl) (hb Y d14_5) fun T897 L897 v897 X897 hQ897 => ?_
  obtain ⟨rfl, N897q, e897⟩ := hQ897
  have N897 := Fr.app N0 N897q
  refine f_pop X897 hx (hb Y d14_8) rfl <| aN X897 hx (hb Y d14_9) rfl rfl <| iN X897 hx (hb Y d14_10) rfl <| vV X897 hx hZ hO (by rw [hml]; rfl) (w119 hw) (w120 hw) (w122 hw) (w121 hw) (w23 hw) (w123 hw) e897 E_c1 (argsL := [(.int 1)]) (rest := []) (q901 l Z a0 hw [] h0 n0 c1 c2 kc3 s_DRAW s_LOSS F_c1_elementData V_c2) (lenOf pd11 rfl) (hb Y d14_11) fun T899 L899 v899 X899 hQ899 => ?_
  obtain ⟨rfl, N899q, e899⟩ := hQ899
  have N899 := Fr.app N897 N899q
  exact f_ret X899 hx hlk (i := .areturn) hret rfl (Or.inr (Or.inr (Or.inr (Or.inr ⟨rfl, rfl, rfl⟩)))) (hb Y d14_14) (QQ := (QV (.ref s_LOSS) h0 n0)) ⟨rfl, N899, e899⟩ (by decide) (by decide)
theorem q926 (l : Launch) (Z : State) (a0 : Array Value) (hw : HW a0 Z) (ws : List Jvm.Cond) (h0 : Heap) (n0 : Nat) (c1 : Nat) (c2 : Nat) (kc3 : ClassId) (s_DRAW : Nat) (F_c1_elementData : Fld Z h0 c1 cA "elementData" "[Ljava/lang/Object;" (.ref c2)) (V_c2 : Arv Z h0 c2 kc3 (.object "java/lang/Object") 10 [(.ref s_DRAW), (.ref s_DRAW), .null, .null, .null, .null, .null, .null, .null, .null] .null) :
    MC l Z y17 jdk_38_method_18_code 2 (some (.object "java/lang/Object")) ws rm_0_0_0_0 #[(.ref c1), (.int 0)] h0 (QV (.ref s_DRAW) h0 n0) := by
  refine own_met (plainFor_of_name pn17) fun p e s m below meth c s₁ X0 hx hZ Y hml hO hnm hlk hret e0 => f_cast (f' := mkF m 0 #[(rv c1), (iv 0)] []) (by first | (simp [entryFrame, mkF, argsToLocals, Value.category]; done) | rfl) ?_
  have N0 := Fr.nil n0
  refine aN X0 hx (hb Y d17_0) rfl rfl <| gF X0 hx hZ hO (w43 hw) Via.refl e0 F_c1_elementData (hb Y d17_1) fun T925 X925 e925 => ?_
  refine iN X925 hx (hb Y d17_4) rfl <| f_aald X925 hx hZ e925 V_c2 rfl (v := (.ref s_DRAW)) rfl (hb Y d17_5) ?_
  exact f_ret X925 hx hlk (i := .areturn) hret rfl (Or.inr (Or.inr (Or.inr (Or.inr ⟨rfl, rfl, rfl⟩)))) (hb Y d17_6) (QQ := (QV (.ref s_DRAW) h0 n0)) ⟨rfl, N0, e925⟩ (by decide) (by decide)
theorem q927 (l : Launch) (Z : State) (a0 : Array Value) (hw : HW a0 Z) (ws : List Jvm.Cond) (h0 : Heap) (n0 : Nat) (c1 : Nat) (c2 : Nat) (kc3 : ClassId) (s_DRAW : Nat) (F_c1_s : Fld Z h0 c1 cA "size" "I" (.int 2)) (F_c1_elementData : Fld Z h0 c1 cA "elementData" "[Ljava/lang/Object;" (.ref c2)) (V_c2 : Arv Z h0 c2 kc3 (.object "java/lang/Object") 10 [(.ref s_DRAW), (.ref s_DRAW), .null, .null, .null, .null, .null, .null, .null, .null] .null) (E_c1 : Exa Z h0 c1 cA) :
    MC l Z y14 jdk_38_method_20_code 2 (some (.object "java/lang/Object")) ws rm_2_0_0_27 #[(.ref c1), (.int 0)] h0 (QV (.ref s_DRAW) h0 n0) := by
  refine own_met (plainFor_of_name pn14) fun p e s m below meth c s₁ X0 hx hZ Y hml hO hnm hlk hret e0 => f_cast (f' := mkF m 0 #[(rv c1), (iv 0)] []) (by first | (simp [entryFrame, mkF, argsToLocals, Value.category]; done) | rfl) ?_
  have N0 := Fr.nil n0
  refine iN X0 hx (hb Y d14_0) rfl <| aN X0 hx (hb Y d14_1) rfl rfl <| gF X0 hx hZ hO (w58 hw) Via.refl e0 F_c1_s (hb Y d14_2) fun T921 X921 e921 => ?_
  refine f_stat X921 hx hZ hO (by rw [hml]; rfl) (w111 hw) (w112 hw) (w113 hw) (w114 hw) e921 (argsL := [(.int 0), (.int 2)]) (rest := []) (q590 l Z a0 hw [] h0 n0) (lenOf pd4 rfl) (hb Y d14_5) fun T922 L922 v922 X922 hQ922 => ?_
  obtain ⟨rfl, N922q, e922⟩ := hQ922
  have N922 := Fr.app N0 N922q
  refine f_pop X922 hx (hb Y d14_8) rfl <| aN X922 hx (hb Y d14_9) rfl rfl <| iN X922 hx (hb Y d14_10) rfl <| vV X922 hx hZ hO (by rw [hml]; rfl) (w119 hw) (w120 hw) (w122 hw) (w121 hw) (w23 hw) (w123 hw) e922 E_c1 (argsL := [(.int 0)]) (rest := []) (q926 l Z a0 hw [] h0 n0 c1 c2 kc3 s_DRAW F_c1_elementData V_c2) (lenOf pd11 rfl) (hb Y d14_11) fun T924 L924 v924 X924 hQ924 => ?_
  obtain ⟨rfl, N924q, e924⟩ := hQ924
  have N924 := Fr.app N922 N924q
  exact f_ret X924 hx hlk (i := .areturn) hret rfl (Or.inr (Or.inr (Or.inr (Or.inr ⟨rfl, rfl, rfl⟩)))) (hb Y d14_14) (QQ := (QV (.ref s_DRAW) h0 n0)) ⟨rfl, N924, e924⟩ (by decide) (by decide)
theorem q942 (l : Launch) (Z : State) (a0 : Array Value) (hw : HW a0 Z) (ws : List Jvm.Cond) (h0 : Heap) (n0 : Nat) (c1 : Nat) (c2 : Nat) (kc3 : ClassId) (s_DRAW : Nat) (F_c1_elementData : Fld Z h0 c1 cA "elementData" "[Ljava/lang/Object;" (.ref c2)) (V_c2 : Arv Z h0 c2 kc3 (.object "java/lang/Object") 10 [(.ref s_DRAW), (.ref s_DRAW), .null, .null, .null, .null, .null, .null, .null, .null] .null) :
    MC l Z y17 jdk_38_method_18_code 2 (some (.object "java/lang/Object")) ws rm_0_0_0_0 #[(.ref c1), (.int 1)] h0 (QV (.ref s_DRAW) h0 n0) := by
  refine own_met (plainFor_of_name pn17) fun p e s m below meth c s₁ X0 hx hZ Y hml hO hnm hlk hret e0 => f_cast (f' := mkF m 0 #[(rv c1), (iv 1)] []) (by first | (simp [entryFrame, mkF, argsToLocals, Value.category]; done) | rfl) ?_
  have N0 := Fr.nil n0
  refine aN X0 hx (hb Y d17_0) rfl rfl <| gF X0 hx hZ hO (w43 hw) Via.refl e0 F_c1_elementData (hb Y d17_1) fun T941 X941 e941 => ?_
  refine iN X941 hx (hb Y d17_4) rfl <| f_aald X941 hx hZ e941 V_c2 rfl (v := (.ref s_DRAW)) rfl (hb Y d17_5) ?_
  exact f_ret X941 hx hlk (i := .areturn) hret rfl (Or.inr (Or.inr (Or.inr (Or.inr ⟨rfl, rfl, rfl⟩)))) (hb Y d17_6) (QQ := (QV (.ref s_DRAW) h0 n0)) ⟨rfl, N0, e941⟩ (by decide) (by decide)
theorem q943 (l : Launch) (Z : State) (a0 : Array Value) (hw : HW a0 Z) (ws : List Jvm.Cond) (h0 : Heap) (n0 : Nat) (c1 : Nat) (c2 : Nat) (kc3 : ClassId) (s_DRAW : Nat) (F_c1_s : Fld Z h0 c1 cA "size" "I" (.int 2)) (F_c1_elementData : Fld Z h0 c1 cA "elementData" "[Ljava/lang/Object;" (.ref c2)) (V_c2 : Arv Z h0 c2 kc3 (.object "java/lang/Object") 10 [(.ref s_DRAW), (.ref s_DRAW), .null, .null, .null, .null, .null, .null, .null, .null] .null) (E_c1 : Exa Z h0 c1 cA) :
    MC l Z y14 jdk_38_method_20_code 2 (some (.object "java/lang/Object")) ws rm_2_0_0_27 #[(.ref c1), (.int 1)] h0 (QV (.ref s_DRAW) h0 n0) := by
  refine own_met (plainFor_of_name pn14) fun p e s m below meth c s₁ X0 hx hZ Y hml hO hnm hlk hret e0 => f_cast (f' := mkF m 0 #[(rv c1), (iv 1)] []) (by first | (simp [entryFrame, mkF, argsToLocals, Value.category]; done) | rfl) ?_
  have N0 := Fr.nil n0
  refine iN X0 hx (hb Y d14_0) rfl <| aN X0 hx (hb Y d14_1) rfl rfl <| gF X0 hx hZ hO (w58 hw) Via.refl e0 F_c1_s (hb Y d14_2) fun T937 X937 e937 => ?_
  refine f_stat X937 hx hZ hO (by rw [hml]; rfl) (w111 hw) (w112 hw) (w113 hw) (w114 hw) e937 (argsL := [(.int 1), (.int 2)]) (rest := []) (q609 l Z a0 hw [] h0 n0) (lenOf pd4 rfl) (hb Y d14_5) fun T938 L938 v938 X938 hQ938 => ?_
  obtain ⟨rfl, N938q, e938⟩ := hQ938
  have N938 := Fr.app N0 N938q
  refine f_pop X938 hx (hb Y d14_8) rfl <| aN X938 hx (hb Y d14_9) rfl rfl <| iN X938 hx (hb Y d14_10) rfl <| vV X938 hx hZ hO (by rw [hml]; rfl) (w119 hw) (w120 hw) (w122 hw) (w121 hw) (w23 hw) (w123 hw) e938 E_c1 (argsL := [(.int 1)]) (rest := []) (q942 l Z a0 hw [] h0 n0 c1 c2 kc3 s_DRAW F_c1_elementData V_c2) (lenOf pd11 rfl) (hb Y d14_11) fun T940 L940 v940 X940 hQ940 => ?_
  obtain ⟨rfl, N940q, e940⟩ := hQ940
  have N940 := Fr.app N938 N940q
  exact f_ret X940 hx hlk (i := .areturn) hret rfl (Or.inr (Or.inr (Or.inr (Or.inr ⟨rfl, rfl, rfl⟩)))) (hb Y d14_14) (QQ := (QV (.ref s_DRAW) h0 n0)) ⟨rfl, N940, e940⟩ (by decide) (by decide)
def Qr577 (Z : State) (n0 : Nat) (s_WIN : Nat) (s_LOSS : Nat) (s_DRAW : Nat) (s_SW : Nat) (s_EM : Nat) (e0_ : Nat) (e1_ : Nat) (e2_ : Nat) (e3_ : Nat) (c1 : Nat) (c2 : Nat) (c3 : Nat) (c4 : Nat) (c5 : Nat) (c6 : Nat) (c7 : Nat) (c8 : Nat) (c9 : Nat) (c10 : Nat) (c11 : Nat) (c12 : Nat) (k901 : ClassId) (k902 : ClassId) (kc1 : ClassId) (kc2 : ClassId) (kc3 : ClassId) (kc4 : ClassId) (kc5 : ClassId) (kc6 : ClassId) (kc7 : ClassId) (kc8 : ClassId) (n1_ : Int32) (n2_ : Int32) (n3_ : Int32) (n4_ : Int32) (n5_ : Int32) (n6_ : Int32) (n7_ : Int32) (n8_ : Int32) (n9_ : Int32) (n10_ : Int32) (n11_ : Int32) (n12_ : Int32) (n13_ : Int32) (n14_ : Int32) (n15_ : Int32) (n16_ : Int32) (v0_ : Int32) (v1_ : Int32) (v2_ : Int32) (v3_ : Int32) (v : Option Value) (h : Heap) (L : List Loc) : Prop := v = none ∧ Fr n0 L ∧ St28 Z h n0 s_WIN s_LOSS s_DRAW s_SW s_EM e0_ e1_ e2_ e3_ c1 c2 c3 c4 c5 c6 c7 c8 c9 c10 c11 c12 k901 k902 kc1 kc2 kc3 kc4 kc5 kc6 kc7 kc8 n1_ n2_ v0_ v1_ n3_ n4_ n5_ n6_ n7_ n8_ n9_ n10_ n11_ n12_ n13_ n14_ n15_ n16_ v2_ v3_
theorem mr577 (l : Launch) (Z : State) (a0 : Array Value) (hw : HW a0 Z) (ws : List Jvm.Cond) (h0 : Heap) (n0 : Nat) (s_WIN : Nat) (s_LOSS : Nat) (s_DRAW : Nat) (s_SW : Nat) (s_EM : Nat) (e0_ : Nat) (e1_ : Nat) (e2_ : Nat) (e3_ : Nat) (c1 : Nat) (c2 : Nat) (c3 : Nat) (c4 : Nat) (c5 : Nat) (c6 : Nat) (c7 : Nat) (c8 : Nat) (c9 : Nat) (c10 : Nat) (c11 : Nat) (c12 : Nat) (k901 : ClassId) (k902 : ClassId) (kc1 : ClassId) (kc2 : ClassId) (kc3 : ClassId) (kc4 : ClassId) (kc5 : ClassId) (kc6 : ClassId) (kc7 : ClassId) (kc8 : ClassId) (n1_ : Int32) (n2_ : Int32) (n3_ : Int32) (n4_ : Int32) (n5_ : Int32) (n6_ : Int32) (n7_ : Int32) (n8_ : Int32) (n9_ : Int32) (n10_ : Int32) (n11_ : Int32) (n12_ : Int32) (n13_ : Int32) (n14_ : Int32) (n15_ : Int32) (n16_ : Int32) (v0_ : Int32) (v1_ : Int32) (v2_ : Int32) (v3_ : Int32) (P : St27 Z h0 n0 s_WIN s_LOSS s_DRAW s_SW s_EM e0_ e1_ e2_ e3_ c1 c2 c3 c4 c5 c6 c7 c8 c9 c10 c11 c12 k901 k902 kc1 kc2 kc3 kc4 kc5 kc6 kc7 kc8 n1_ n2_ n3_ n4_ n5_ n6_ n7_ n8_ n9_ n10_ n11_ n12_ n13_ n14_ n15_ n16_ v0_ v1_ v2_ v3_) :
    MC l Z y12 prog_6_method_2_code 4 none ws rm_3_0_0_41 #[(.ref c1), (.ref c9)] h0 (Qr577 Z n0 s_WIN s_LOSS s_DRAW s_SW s_EM e0_ e1_ e2_ e3_ c1 c2 c3 c4 c5 c6 c7 c8 c9 c10 c11 c12 k901 k902 kc1 kc2 kc3 kc4 kc5 kc6 kc7 kc8 n1_ n2_ n3_ n4_ n5_ n6_ n7_ n8_ n9_ n10_ n11_ n12_ n13_ n14_ n15_ n16_ v0_ v1_ v2_ v3_) := by
  obtain ⟨S_WIN, S_LOSS, S_DRAW, S__SwitchMap_com_example_g, S_DEFAULTCAPACITY_EMPTY_EL, E_s_WIN, F_s_WIN_ordinal, E_s_LOSS, F_s_LOSS_ordinal, E_s_DRAW, F_s_DRAW_ordinal, V_s_SW, V_s_EM, E_c1, F_c1_wins, F_c1_draws, F_c1_losses, F_c1_matches, F_c1_drawnMatches, V_c2, V_c3, V_c4, E_c5, F_c5_wins, F_c5_draws, F_c5_losses, F_c5_matches, F_c5_drawnMatches, V_c6, V_c7, V_c8, E_c9, F_c9_modCount, F_c9_elementData, F_c9_s, E_e0_, E_c10, V_c10, O_c10, E_e1_, E_c11, F_c11_modCount, F_c11_elementData, F_c11_s, E_e2_, E_c12, V_c12, O_c12, E_e3_, g_c1, lt_c1_c2, lt_c2_c3, lt_c3_c4, lt_c4_c5, lt_c5_c6, lt_c6_c7, lt_c7_c8, lt_c8_c9, lt_c9_c10, lt_c10_c11, lt_c11_c12, od_s_WIN, od_s_LOSS, od_s_DRAW, od_s_SW, od_s_EM, od_e0_, od_e1_, od_e2_, od_e3_, hv0, hv1, hv2, hv3, he0, he1, he2, he3⟩ := id P
  refine own_met (plainFor_of_name pn12) fun p e s m below meth c s₁ X0 hx hZ Y hml hO hnm hlk hret e0 => f_cast (f' := mkF m 0 #[(rv c1), (rv c9), .unset, .unset] []) (by first | (simp [entryFrame, mkF, argsToLocals, Value.category]; done) | rfl) ?_
  have N0 := Fr.nil n0
  rcases he0 with ⟨rfl, rfl⟩ | ⟨rfl, rfl⟩ | ⟨rfl, rfl⟩ <;> rcases he1 with ⟨rfl, rfl⟩ | ⟨rfl, rfl⟩ | ⟨rfl, rfl⟩
  · refine aN X0 hx (hb Y d12_0) rfl rfl <| f_face X0 hx hZ hO (by rw [hml]; rfl) (xi := yl13) (y := y13) (w91 hw) (w92 hw) (mvT hZ (w93 hw)) (w94 hw) (w95 hw) (w96 hw) (w97 hw) (w98 hw) (w23 hw) (w99 hw) e0 E_c9 (argsL := []) (rest := []) (q580 l Z a0 hw [] h0 n0 c9 F_c9_s) (lenOf pd9 rfl) (hb Y d12_1) fun T578 L578 v578 X578 hQ578 => ?_
    obtain ⟨rfl, N578q, e578⟩ := hQ578
    have N578 := Fr.app N0 N578q
    refine aN X578 hx (hb Y d12_6) rfl rfl <| gF X578 hx hZ hO (w15 hw) Via.refl e578 F_c1_wins (hb Y d12_7) fun T581 X581 e581 => ?_
    refine f_len X581 hx hZ e581 V_c2 (hb Y d12_10) <| cY X581 hx (pc := 11) 38 (hb Y d12_11) <| iK X581 hx (z := 0) (hb Y d12_38) <| sN X581 hx (L' := #[(rv c1), (rv c9), (iv 0), .unset]) (hb Y d12_39) rfl <| iK X581 hx (z := 0) (hb Y d12_40) <| sN X581 hx (L' := #[(rv c1), (rv c9), (iv 0), (iv 0)]) (hb Y d12_41) rfl <| iN X581 hx (hb Y d12_42) rfl <| aN X581 hx (hb Y d12_43) rfl rfl <| f_face X581 hx hZ hO (by rw [hml]; rfl) (xi := yl13) (y := y13) (w91 hw) (w92 hw) (mvT hZ (w93 hw)) (w94 hw) (w95 hw) (w96 hw) (w97 hw) (w98 hw) (w23 hw) (w99 hw) e581 E_c9 (argsL := []) (rest := [(.int 0)]) (q580 l Z a0 hw [] h0 n0 c9 F_c9_s) (lenOf pd9 rfl) (hb Y d12_44) fun T582 L582 v582 X582 hQ582 => ?_
    obtain ⟨rfl, N582q, e582⟩ := hQ582
    have N582 := Fr.app N578 N582q
    refine cN X582 hx (hb Y d12_49) <| f_getS X582 hx hZ hO (w100 hw) e582 S__SwitchMap_com_example_g (hb Y d12_52) fun T584 X584 e584 => ?_
    refine aN X584 hx (hb Y d12_55) rfl rfl <| iN X584 hx (hb Y d12_56) rfl <| f_face X584 hx hZ hO (by rw [hml]; rfl) (xi := yl18) (y := y14) (w103 hw) (w104 hw) (mvT hZ (w105 hw)) (w106 hw) (w107 hw) (w108 hw) (w109 hw) (w98 hw) (w23 hw) (w110 hw) e584 E_c9 (argsL := [(.int 0)]) (rest := [(.ref s_SW)]) (q594 l Z a0 hw [] h0 n0 c9 c10 kc7 s_WIN F_c9_s F_c9_elementData V_c10 E_c9) (lenOf pd11 rfl) (hb Y d12_57) fun T585 L585 v585 X585 hQ585 => ?_
    obtain ⟨rfl, N585q, e585⟩ := hQ585
    have N585 := Fr.app N582 N585q
    refine f_cast1 X585 hx hZ hO (w124 hw) e585 (Ins.self E_s_WIN) (hb Y d12_62) fun T595 X595 e595 => ?_
    refine f_up X595 hx hZ hO (by rw [hml]; rfl) (xi := yl20) (y := y18) (owner := "java/lang/Enum") (w126 hw) (w127 hw) (w128 hw) (w130 hw) (w129 hw) (w131 hw) (w132 hw) e595 E_s_WIN (argsL := []) (rest := [(.ref s_SW)]) (q598 l Z a0 hw [] h0 n0 s_WIN F_s_WIN_ordinal) (lenOf pd9 rfl) (hb Y d12_65) fun T596 L596 v596 X596 hQ596 => ?_
    obtain ⟨rfl, N596q, e596⟩ := hQ596
    have N596 := Fr.app N585 N596q
    refine f_iald X596 hx hZ e596 V_s_SW (v := (.int 1)) rfl (hb Y d12_68) <| f_tsw X596 hx (o := 27) (pc := 69) 96 (hb Y d12_69) (by decide +kernel) (by decide +kernel) <| aN X596 hx (hb Y d12_96) rfl rfl <| gF X596 hx hZ hO (w15 hw) Via.refl e596 F_c1_wins (hb Y d12_97) fun T599 X599 e599 => ?_
    refine iN X599 hx (hb Y d12_100) rfl <| f_dup2 X599 hx (hb Y d12_101) rfl rfl <| f_iald X599 hx hZ e599 V_c2 (v := (.int n3_)) rfl (hb Y d12_102) <| iK X599 hx (z := 1) (hb Y d12_103) <| iA X599 hx (z := (n3_ + (1 : Int32))) (hb Y d12_104) (q := rfl) <| f_ist X599 hx hZ e599 V_c2 0 (hb Y d12_105) fun T600 h600 X600 e600 W600 V600 => ?_
    have N600x := Fr.snoc X600 N596 (by omega : n0 ≤ c2)
    refine gT X600 hx (pc := 106) 135 (hb Y d12_106) <| f_iinc X600 hx (L' := #[(rv c1), (rv c9), (iv 0), (iv 1)]) (hb Y d12_135) rfl rfl <| gT X600 hx (pc := 138) 42 (hb Y d12_138) <| iN X600 hx (hb Y d12_42) rfl <| aN X600 hx (hb Y d12_43) rfl rfl ?_
    replace F_c9_s := (fo W600 F_c9_s)
    replace E_c9 := (xw W600 E_c9)
    refine f_face X600 hx hZ hO (by rw [hml]; rfl) (xi := yl13) (y := y13) (w91 hw) (w92 hw) (mvT hZ (w93 hw)) (w94 hw) (w95 hw) (w96 hw) (w97 hw) (w98 hw) (w23 hw) (w99 hw) e600 E_c9 (argsL := []) (rest := [(.int 1)]) (q580 l Z a0 hw [] h600 n0 c9 F_c9_s) (lenOf pd9 rfl) (hb Y d12_44) fun T601 L601 v601 X601 hQ601 => ?_
    obtain ⟨rfl, N601q, e601⟩ := hQ601
    have N601 := Fr.app N600x N601q
    refine cN X601 hx (hb Y d12_49) ?_
    replace S__SwitchMap_com_example_g := (Sta.wr W600 S__SwitchMap_com_example_g)
    refine f_getS X601 hx hZ hO (w100 hw) e601 S__SwitchMap_com_example_g (hb Y d12_52) fun T603 X603 e603 => ?_
    refine aN X603 hx (hb Y d12_55) rfl rfl <| iN X603 hx (hb Y d12_56) rfl ?_
    replace F_c9_elementData := (fo W600 F_c9_elementData)
    replace V_c10 := (vo V_c10 W600)
    refine f_face X603 hx hZ hO (by rw [hml]; rfl) (xi := yl18) (y := y14) (w103 hw) (w104 hw) (mvT hZ (w105 hw)) (w106 hw) (w107 hw) (w108 hw) (w109 hw) (w98 hw) (w23 hw) (w110 hw) e603 E_c9 (argsL := [(.int 1)]) (rest := [(.ref s_SW)]) (q613 l Z a0 hw [] h600 n0 c9 c10 kc7 s_WIN F_c9_s F_c9_elementData V_c10 E_c9) (lenOf pd11 rfl) (hb Y d12_57) fun T604 L604 v604 X604 hQ604 => ?_
    obtain ⟨rfl, N604q, e604⟩ := hQ604
    have N604 := Fr.app N601 N604q
    replace E_s_WIN := (xw W600 E_s_WIN)
    refine f_cast1 X604 hx hZ hO (w124 hw) e604 (Ins.self E_s_WIN) (hb Y d12_62) fun T614 X614 e614 => ?_
    replace F_s_WIN_ordinal := (fo W600 F_s_WIN_ordinal)
    refine f_up X614 hx hZ hO (by rw [hml]; rfl) (xi := yl20) (y := y18) (owner := "java/lang/Enum") (w126 hw) (w127 hw) (w128 hw) (w130 hw) (w129 hw) (w131 hw) (w132 hw) e614 E_s_WIN (argsL := []) (rest := [(.ref s_SW)]) (q598 l Z a0 hw [] h600 n0 s_WIN F_s_WIN_ordinal) (lenOf pd9 rfl) (hb Y d12_65) fun T615 L615 v615 X615 hQ615 => ?_
    obtain ⟨rfl, N615q, e615⟩ := hQ615
    have N615 := Fr.app N604 N615q
    replace V_s_SW := (vo V_s_SW W600)
    refine f_iald X615 hx hZ e615 V_s_SW (v := (.int 1)) rfl (hb Y d12_68) <| f_tsw X615 hx (o := 27) (pc := 69) 96 (hb Y d12_69) (by decide +kernel) (by decide +kernel) <| aN X615 hx (hb Y d12_96) rfl rfl ?_
    replace F_c1_wins := (fo W600 F_c1_wins)
    refine gF X615 hx hZ hO (w15 hw) Via.refl e615 F_c1_wins (hb Y d12_97) fun T617 X617 e617 => ?_
    refine iN X617 hx (hb Y d12_100) rfl <| f_dup2 X617 hx (hb Y d12_101) rfl rfl ?_
    replace V_c2 := V600
    refine f_iald X617 hx hZ e617 V_c2 (v := (.int n4_)) rfl (hb Y d12_102) <| iK X617 hx (z := 1) (hb Y d12_103) <| iA X617 hx (z := (n4_ + (1 : Int32))) (hb Y d12_104) (q := rfl) <| f_ist X617 hx hZ e617 V_c2 1 (hb Y d12_105) fun T618 h618 X618 e618 W618 V618 => ?_
    have N618x := Fr.snoc X618 N615 (by omega : n0 ≤ c2)
    refine gT X618 hx (pc := 106) 135 (hb Y d12_106) <| f_iinc X618 hx (L' := #[(rv c1), (rv c9), (iv 0), (iv 2)]) (hb Y d12_135) rfl rfl <| gT X618 hx (pc := 138) 42 (hb Y d12_138) <| iN X618 hx (hb Y d12_42) rfl <| aN X618 hx (hb Y d12_43) rfl rfl ?_
    replace F_c9_s := (fo W618 F_c9_s)
    replace E_c9 := (xw W618 E_c9)
    refine f_face X618 hx hZ hO (by rw [hml]; rfl) (xi := yl13) (y := y13) (w91 hw) (w92 hw) (mvT hZ (w93 hw)) (w94 hw) (w95 hw) (w96 hw) (w97 hw) (w98 hw) (w23 hw) (w99 hw) e618 E_c9 (argsL := []) (rest := [(.int 2)]) (q580 l Z a0 hw [] h618 n0 c9 F_c9_s) (lenOf pd9 rfl) (hb Y d12_44) fun T619 L619 v619 X619 hQ619 => ?_
    obtain ⟨rfl, N619q, e619⟩ := hQ619
    have N619 := Fr.app N618x N619q
    refine cY X619 hx (pc := 49) 141 (hb Y d12_49) <| iN X619 hx (hb Y d12_141) rfl <| aN X619 hx (hb Y d12_142) rfl rfl <| f_face X619 hx hZ hO (by rw [hml]; rfl) (xi := yl13) (y := y13) (w91 hw) (w92 hw) (mvT hZ (w93 hw)) (w94 hw) (w95 hw) (w96 hw) (w97 hw) (w98 hw) (w23 hw) (w99 hw) e619 E_c9 (argsL := []) (rest := [(.int 0)]) (q580 l Z a0 hw [] h618 n0 c9 F_c9_s) (lenOf pd9 rfl) (hb Y d12_143) fun T621 L621 v621 X621 hQ621 => ?_
    obtain ⟨rfl, N621q, e621⟩ := hQ621
    have N621 := Fr.app N619 N621q
    refine cY X621 hx (pc := 148) 161 (hb Y d12_148) <| aN X621 hx (hb Y d12_161) rfl rfl <| f_dup X621 hx (hb Y d12_162) rfl ?_
    replace F_c1_matches := (fo W618 (fo W600 F_c1_matches))
    refine gF X621 hx hZ hO (w135 hw) Via.refl e621 F_c1_matches (hb Y d12_163) fun T623 X623 e623 => ?_
    refine iK X623 hx (z := 1) (hb Y d12_166) <| iA X623 hx (z := (n1_ + (1 : Int32))) (hb Y d12_167) (q := rfl) ?_
    replace E_c1 := (xw W618 (xw W600 E_c1))
    refine f_putF X623 hx hZ hO (w135 hw) Via.refl e623 F_c1_matches E_c1 (Or.inl (w136 hw)) (w6 hw) (ty := .int) (by decide) rfl rfl (hb Y d12_168) fun T624 h624 X624 e624 W624 => ?_
    have N624x := Fr.snoc X624 N621 (by omega : n0 ≤ c1)
    exact f_ret0 X624 hx hlk hret (hb Y d12_171) (QQ := _) (by rw [e624]; exact ⟨rfl, N624x, (Sta.wr W624 (Sta.wr W618 (Sta.wr W600 S_WIN))), (Sta.wr W624 (Sta.wr W618 (Sta.wr W600 S_LOSS))), (Sta.wr W624 (Sta.wr W618 (Sta.wr W600 S_DRAW))), (Sta.wr W624 (Sta.wr W618 S__SwitchMap_com_example_g)), (Sta.wr W624 (Sta.wr W618 (Sta.wr W600 S_DEFAULTCAPACITY_EMPTY_EL))), (xw W624 (xw W618 E_s_WIN)), (fo W624 (fo W618 F_s_WIN_ordinal)), (xw W624 (xw W618 (xw W600 E_s_LOSS))), (fo W624 (fo W618 (fo W600 F_s_LOSS_ordinal))), (xw W624 (xw W618 (xw W600 E_s_DRAW))), (fo W624 (fo W618 (fo W600 F_s_DRAW_ordinal))), (vo (vo V_s_SW W618) W624), (vo (vo (vo V_s_EM W600) W618) W624), (xw W624 E_c1), (Fld.other W624 (fo W618 F_c1_wins) (Or.inr (slot_ne (Or.inr (w16 hw)) (Or.inl (w136 hw)) (by decide) (t := (.array .int)) (t' := .int) (by decide) (by decide)))), (Fld.other W624 (fo W618 (fo W600 F_c1_draws)) (Or.inr (slot_ne (Or.inr (w18 hw)) (Or.inl (w136 hw)) (by decide) (t := (.array .int)) (t' := .int) (by decide) (by decide)))), (Fld.other W624 (fo W618 (fo W600 F_c1_losses)) (Or.inr (slot_ne (Or.inr (w20 hw)) (Or.inl (w136 hw)) (by decide) (t := (.array .int)) (t' := .int) (by decide) (by decide)))), (Fld.same W624 F_c1_matches), (Fld.other W624 (fo W618 (fo W600 F_c1_drawnMatches)) (Or.inr (slot_ne (Or.inl (w143 hw)) (Or.inl (w136 hw)) (by decide) (t := .int) (t' := .int) (by decide) (by decide)))), (vo V618 W624), (vo (vo (vo V_c3 W600) W618) W624), (vo (vo (vo V_c4 W600) W618) W624), (xw W624 (xw W618 (xw W600 E_c5))), (fo W624 (fo W618 (fo W600 F_c5_wins))), (fo W624 (fo W618 (fo W600 F_c5_draws))), (fo W624 (fo W618 (fo W600 F_c5_losses))), (fo W624 (fo W618 (fo W600 F_c5_matches))), (fo W624 (fo W618 (fo W600 F_c5_drawnMatches))), (vo (vo (vo V_c6 W600) W618) W624), (vo (vo (vo V_c7 W600) W618) W624), (vo (vo (vo V_c8 W600) W618) W624), (xw W624 E_c9), (fo W624 (fo W618 (fo W600 F_c9_modCount))), (fo W624 (fo W618 F_c9_elementData)), (fo W624 F_c9_s), (xw W624 (xw W618 E_s_WIN)), (xw W624 (xw W618 (xw W600 E_c10))), (vo (vo V_c10 W618) W624), O_c10, (xw W624 (xw W618 E_s_WIN)), (xw W624 (xw W618 (xw W600 E_c11))), (fo W624 (fo W618 (fo W600 F_c11_modCount))), (fo W624 (fo W618 (fo W600 F_c11_elementData))), (fo W624 (fo W618 (fo W600 F_c11_s))), (xw W624 (xw W618 (xw W600 E_e2_))), (xw W624 (xw W618 (xw W600 E_c12))), (vo (vo (vo V_c12 W600) W618) W624), O_c12, (xw W624 (xw W618 (xw W600 E_e3_))), g_c1, lt_c1_c2, lt_c2_c3, lt_c3_c4, lt_c4_c5, lt_c5_c6, lt_c6_c7, lt_c7_c8, lt_c8_c9, lt_c9_c10, lt_c10_c11, lt_c11_c12, od_s_WIN, od_s_LOSS, od_s_DRAW, od_s_SW, od_s_EM, od_s_WIN, od_s_WIN, od_e2_, od_e3_, hv0, hv1, hv2, hv3, (Or.inl ⟨rfl, rfl⟩), (Or.inl ⟨rfl, rfl⟩), he2, he3⟩) (by decide) (by decide)
  · refine aN X0 hx (hb Y d12_0) rfl rfl <| f_face X0 hx hZ hO (by rw [hml]; rfl) (xi := yl13) (y := y13) (w91 hw) (w92 hw) (mvT hZ (w93 hw)) (w94 hw) (w95 hw) (w96 hw) (w97 hw) (w98 hw) (w23 hw) (w99 hw) e0 E_c9 (argsL := []) (rest := []) (q580 l Z a0 hw [] h0 n0 c9 F_c9_s) (lenOf pd9 rfl) (hb Y d12_1) fun T625 L625 v625 X625 hQ625 => ?_
    obtain ⟨rfl, N625q, e625⟩ := hQ625
    have N625 := Fr.app N0 N625q
    refine aN X625 hx (hb Y d12_6) rfl rfl <| gF X625 hx hZ hO (w15 hw) Via.refl e625 F_c1_wins (hb Y d12_7) fun T627 X627 e627 => ?_
    refine f_len X627 hx hZ e627 V_c2 (hb Y d12_10) <| cY X627 hx (pc := 11) 38 (hb Y d12_11) <| iK X627 hx (z := 0) (hb Y d12_38) <| sN X627 hx (L' := #[(rv c1), (rv c9), (iv 0), .unset]) (hb Y d12_39) rfl <| iK X627 hx (z := 0) (hb Y d12_40) <| sN X627 hx (L' := #[(rv c1), (rv c9), (iv 0), (iv 0)]) (hb Y d12_41) rfl <| iN X627 hx (hb Y d12_42) rfl <| aN X627 hx (hb Y d12_43) rfl rfl <| f_face X627 hx hZ hO (by rw [hml]; rfl) (xi := yl13) (y := y13) (w91 hw) (w92 hw) (mvT hZ (w93 hw)) (w94 hw) (w95 hw) (w96 hw) (w97 hw) (w98 hw) (w23 hw) (w99 hw) e627 E_c9 (argsL := []) (rest := [(.int 0)]) (q580 l Z a0 hw [] h0 n0 c9 F_c9_s) (lenOf pd9 rfl) (hb Y d12_44) fun T628 L628 v628 X628 hQ628 => ?_
    obtain ⟨rfl, N628q, e628⟩ := hQ628
    have N628 := Fr.app N625 N628q
    refine cN X628 hx (hb Y d12_49) <| f_getS X628 hx hZ hO (w100 hw) e628 S__SwitchMap_com_example_g (hb Y d12_52) fun T630 X630 e630 => ?_
    refine aN X630 hx (hb Y d12_55) rfl rfl <| iN X630 hx (hb Y d12_56) rfl <| f_face X630 hx hZ hO (by rw [hml]; rfl) (xi := yl18) (y := y14) (w103 hw) (w104 hw) (mvT hZ (w105 hw)) (w106 hw) (w107 hw) (w108 hw) (w109 hw) (w98 hw) (w23 hw) (w110 hw) e630 E_c9 (argsL := [(.int 0)]) (rest := [(.ref s_SW)]) (q638 l Z a0 hw [] h0 n0 c9 c10 kc7 s_WIN s_LOSS F_c9_s F_c9_elementData V_c10 E_c9) (lenOf pd11 rfl) (hb Y d12_57) fun T631 L631 v631 X631 hQ631 => ?_
    obtain ⟨rfl, N631q, e631⟩ := hQ631
    have N631 := Fr.app N628 N631q
    refine f_cast1 X631 hx hZ hO (w124 hw) e631 (Ins.self E_s_WIN) (hb Y d12_62) fun T639 X639 e639 => ?_
    refine f_up X639 hx hZ hO (by rw [hml]; rfl) (xi := yl20) (y := y18) (owner := "java/lang/Enum") (w126 hw) (w127 hw) (w128 hw) (w130 hw) (w129 hw) (w131 hw) (w132 hw) e639 E_s_WIN (argsL := []) (rest := [(.ref s_SW)]) (q598 l Z a0 hw [] h0 n0 s_WIN F_s_WIN_ordinal) (lenOf pd9 rfl) (hb Y d12_65) fun T640 L640 v640 X640 hQ640 => ?_
    obtain ⟨rfl, N640q, e640⟩ := hQ640
    have N640 := Fr.app N631 N640q
    refine f_iald X640 hx hZ e640 V_s_SW (v := (.int 1)) rfl (hb Y d12_68) <| f_tsw X640 hx (o := 27) (pc := 69) 96 (hb Y d12_69) (by decide +kernel) (by decide +kernel) <| aN X640 hx (hb Y d12_96) rfl rfl <| gF X640 hx hZ hO (w15 hw) Via.refl e640 F_c1_wins (hb Y d12_97) fun T642 X642 e642 => ?_
    refine iN X642 hx (hb Y d12_100) rfl <| f_dup2 X642 hx (hb Y d12_101) rfl rfl <| f_iald X642 hx hZ e642 V_c2 (v := (.int n3_)) rfl (hb Y d12_102) <| iK X642 hx (z := 1) (hb Y d12_103) <| iA X642 hx (z := (n3_ + (1 : Int32))) (hb Y d12_104) (q := rfl) <| f_ist X642 hx hZ e642 V_c2 0 (hb Y d12_105) fun T643 h643 X643 e643 W643 V643 => ?_
    have N643x := Fr.snoc X643 N640 (by omega : n0 ≤ c2)
    refine gT X643 hx (pc := 106) 135 (hb Y d12_106) <| f_iinc X643 hx (L' := #[(rv c1), (rv c9), (iv 0), (iv 1)]) (hb Y d12_135) rfl rfl <| gT X643 hx (pc := 138) 42 (hb Y d12_138) <| iN X643 hx (hb Y d12_42) rfl <| aN X643 hx (hb Y d12_43) rfl rfl ?_
    replace F_c9_s := (fo W643 F_c9_s)
    replace E_c9 := (xw W643 E_c9)
    refine f_face X643 hx hZ hO (by rw [hml]; rfl) (xi := yl13) (y := y13) (w91 hw) (w92 hw) (mvT hZ (w93 hw)) (w94 hw) (w95 hw) (w96 hw) (w97 hw) (w98 hw) (w23 hw) (w99 hw) e643 E_c9 (argsL := []) (rest := [(.int 1)]) (q580 l Z a0 hw [] h643 n0 c9 F_c9_s) (lenOf pd9 rfl) (hb Y d12_44) fun T644 L644 v644 X644 hQ644 => ?_
    obtain ⟨rfl, N644q, e644⟩ := hQ644
    have N644 := Fr.app N643x N644q
    refine cN X644 hx (hb Y d12_49) ?_
    replace S__SwitchMap_com_example_g := (Sta.wr W643 S__SwitchMap_com_example_g)
    refine f_getS X644 hx hZ hO (w100 hw) e644 S__SwitchMap_com_example_g (hb Y d12_52) fun T646 X646 e646 => ?_
    refine aN X646 hx (hb Y d12_55) rfl rfl <| iN X646 hx (hb Y d12_56) rfl ?_
    replace F_c9_elementData := (fo W643 F_c9_elementData)
    replace V_c10 := (vo V_c10 W643)
    refine f_face X646 hx hZ hO (by rw [hml]; rfl) (xi := yl18) (y := y14) (w103 hw) (w104 hw) (mvT hZ (w105 hw)) (w106 hw) (w107 hw) (w108 hw) (w109 hw) (w98 hw) (w23 hw) (w110 hw) e646 E_c9 (argsL := [(.int 1)]) (rest := [(.ref s_SW)]) (q654 l Z a0 hw [] h643 n0 c9 c10 kc7 s_WIN s_LOSS F_c9_s F_c9_elementData V_c10 E_c9) (lenOf pd11 rfl) (hb Y d12_57) fun T647 L647 v647 X647 hQ647 => ?_
    obtain ⟨rfl, N647q, e647⟩ := hQ647
    have N647 := Fr.app N644 N647q
    replace E_s_LOSS := (xw W643 E_s_LOSS)
    refine f_cast1 X647 hx hZ hO (w124 hw) e647 (Ins.self E_s_LOSS) (hb Y d12_62) fun T655 X655 e655 => ?_
    replace F_s_LOSS_ordinal := (fo W643 F_s_LOSS_ordinal)
    refine f_up X655 hx hZ hO (by rw [hml]; rfl) (xi := yl20) (y := y18) (owner := "java/lang/Enum") (w126 hw) (w127 hw) (w128 hw) (w130 hw) (w129 hw) (w131 hw) (w132 hw) e655 E_s_LOSS (argsL := []) (rest := [(.ref s_SW)]) (q658 l Z a0 hw [] h643 n0 s_LOSS F_s_LOSS_ordinal) (lenOf pd9 rfl) (hb Y d12_65) fun T656 L656 v656 X656 hQ656 => ?_
    obtain ⟨rfl, N656q, e656⟩ := hQ656
    have N656 := Fr.app N647 N656q
    replace V_s_SW := (vo V_s_SW W643)
    refine f_iald X656 hx hZ e656 V_s_SW (v := (.int 3)) rfl (hb Y d12_68) <| f_tsw X656 hx (o := 56) (pc := 69) 125 (hb Y d12_69) (by decide +kernel) (by decide +kernel) <| aN X656 hx (hb Y d12_125) rfl rfl ?_
    replace F_c1_losses := (fo W643 F_c1_losses)
    refine gF X656 hx hZ hO (w19 hw) Via.refl e656 F_c1_losses (hb Y d12_126) fun T659 X659 e659 => ?_
    refine iN X659 hx (hb Y d12_129) rfl <| f_dup2 X659 hx (hb Y d12_130) rfl rfl ?_
    replace V_c4 := (vo V_c4 W643)
    refine f_iald X659 hx hZ e659 V_c4 (v := (.int n8_)) rfl (hb Y d12_131) <| iK X659 hx (z := 1) (hb Y d12_132) <| iA X659 hx (z := (n8_ + (1 : Int32))) (hb Y d12_133) (q := rfl) <| f_ist X659 hx hZ e659 V_c4 1 (hb Y d12_134) fun T660 h660 X660 e660 W660 V660 => ?_
    have N660x := Fr.snoc X660 N656 (by omega : n0 ≤ c4)
    refine f_iinc X660 hx (L' := #[(rv c1), (rv c9), (iv 0), (iv 2)]) (hb Y d12_135) rfl rfl <| gT X660 hx (pc := 138) 42 (hb Y d12_138) <| iN X660 hx (hb Y d12_42) rfl <| aN X660 hx (hb Y d12_43) rfl rfl ?_
    replace F_c9_s := (fo W660 F_c9_s)
    replace E_c9 := (xw W660 E_c9)
    refine f_face X660 hx hZ hO (by rw [hml]; rfl) (xi := yl13) (y := y13) (w91 hw) (w92 hw) (mvT hZ (w93 hw)) (w94 hw) (w95 hw) (w96 hw) (w97 hw) (w98 hw) (w23 hw) (w99 hw) e660 E_c9 (argsL := []) (rest := [(.int 2)]) (q580 l Z a0 hw [] h660 n0 c9 F_c9_s) (lenOf pd9 rfl) (hb Y d12_44) fun T661 L661 v661 X661 hQ661 => ?_
    obtain ⟨rfl, N661q, e661⟩ := hQ661
    have N661 := Fr.app N660x N661q
    refine cY X661 hx (pc := 49) 141 (hb Y d12_49) <| iN X661 hx (hb Y d12_141) rfl <| aN X661 hx (hb Y d12_142) rfl rfl <| f_face X661 hx hZ hO (by rw [hml]; rfl) (xi := yl13) (y := y13) (w91 hw) (w92 hw) (mvT hZ (w93 hw)) (w94 hw) (w95 hw) (w96 hw) (w97 hw) (w98 hw) (w23 hw) (w99 hw) e661 E_c9 (argsL := []) (rest := [(.int 0)]) (q580 l Z a0 hw [] h660 n0 c9 F_c9_s) (lenOf pd9 rfl) (hb Y d12_143) fun T663 L663 v663 X663 hQ663 => ?_
    obtain ⟨rfl, N663q, e663⟩ := hQ663
    have N663 := Fr.app N661 N663q
    refine cY X663 hx (pc := 148) 161 (hb Y d12_148) <| aN X663 hx (hb Y d12_161) rfl rfl <| f_dup X663 hx (hb Y d12_162) rfl ?_
    replace F_c1_matches := (fo W660 (fo W643 F_c1_matches))
    refine gF X663 hx hZ hO (w135 hw) Via.refl e663 F_c1_matches (hb Y d12_163) fun T665 X665 e665 => ?_
    refine iK X665 hx (z := 1) (hb Y d12_166) <| iA X665 hx (z := (n1_ + (1 : Int32))) (hb Y d12_167) (q := rfl) ?_
    replace E_c1 := (xw W660 (xw W643 E_c1))
    refine f_putF X665 hx hZ hO (w135 hw) Via.refl e665 F_c1_matches E_c1 (Or.inl (w136 hw)) (w6 hw) (ty := .int) (by decide) rfl rfl (hb Y d12_168) fun T666 h666 X666 e666 W666 => ?_
    have N666x := Fr.snoc X666 N663 (by omega : n0 ≤ c1)
    exact f_ret0 X666 hx hlk hret (hb Y d12_171) (QQ := _) (by rw [e666]; exact ⟨rfl, N666x, (Sta.wr W666 (Sta.wr W660 (Sta.wr W643 S_WIN))), (Sta.wr W666 (Sta.wr W660 (Sta.wr W643 S_LOSS))), (Sta.wr W666 (Sta.wr W660 (Sta.wr W643 S_DRAW))), (Sta.wr W666 (Sta.wr W660 S__SwitchMap_com_example_g)), (Sta.wr W666 (Sta.wr W660 (Sta.wr W643 S_DEFAULTCAPACITY_EMPTY_EL))), (xw W666 (xw W660 (xw W643 E_s_WIN))), (fo W666 (fo W660 (fo W643 F_s_WIN_ordinal))), (xw W666 (xw W660 E_s_LOSS)), (fo W666 (fo W660 F_s_LOSS_ordinal)), (xw W666 (xw W660 (xw W643 E_s_DRAW))), (fo W666 (fo W660 (fo W643 F_s_DRAW_ordinal))), (vo (vo V_s_SW W660) W666), (vo (vo (vo V_s_EM W643) W660) W666), (xw W666 E_c1), (Fld.other W666 (fo W660 (fo W643 F_c1_wins)) (Or.inr (slot_ne (Or.inr (w16 hw)) (Or.inl (w136 hw)) (by decide) (t := (.array .int)) (t' := .int) (by decide) (by decide)))), (Fld.other W666 (fo W660 (fo W643 F_c1_draws)) (Or.inr (slot_ne (Or.inr (w18 hw)) (Or.inl (w136 hw)) (by decide) (t := (.array .int)) (t' := .int) (by decide) (by decide)))), (Fld.other W666 (fo W660 F_c1_losses) (Or.inr (slot_ne (Or.inr (w20 hw)) (Or.inl (w136 hw)) (by decide) (t := (.array .int)) (t' := .int) (by decide) (by decide)))), (Fld.same W666 F_c1_matches), (Fld.other W666 (fo W660 (fo W643 F_c1_drawnMatches)) (Or.inr (slot_ne (Or.inl (w143 hw)) (Or.inl (w136 hw)) (by decide) (t := .int) (t' := .int) (by decide) (by decide)))), (vo (vo V643 W660) W666), (vo (vo (vo V_c3 W643) W660) W666), (vo V660 W666), (xw W666 (xw W660 (xw W643 E_c5))), (fo W666 (fo W660 (fo W643 F_c5_wins))), (fo W666 (fo W660 (fo W643 F_c5_draws))), (fo W666 (fo W660 (fo W643 F_c5_losses))), (fo W666 (fo W660 (fo W643 F_c5_matches))), (fo W666 (fo W660 (fo W643 F_c5_drawnMatches))), (vo (vo (vo V_c6 W643) W660) W666), (vo (vo (vo V_c7 W643) W660) W666), (vo (vo (vo V_c8 W643) W660) W666), (xw W666 E_c9), (fo W666 (fo W660 (fo W643 F_c9_modCount))), (fo W666 (fo W660 F_c9_elementData)), (fo W666 F_c9_s), (xw W666 (xw W660 (xw W643 E_s_WIN))), (xw W666 (xw W660 (xw W643 E_c10))), (vo (vo V_c10 W660) W666), O_c10, (xw W666 (xw W660 E_s_LOSS)), (xw W666 (xw W660 (xw W643 E_c11))), (fo W666 (fo W660 (fo W643 F_c11_modCount))), (fo W666 (fo W660 (fo W643 F_c11_elementData))), (fo W666 (fo W660 (fo W643 F_c11_s))), (xw W666 (xw W660 (xw W643 E_e2_))), (xw W666 (xw W660 (xw W643 E_c12))), (vo (vo (vo V_c12 W643) W660) W666), O_c12, (xw W666 (xw W660 (xw W643 E_e3_))), g_c1, lt_c1_c2, lt_c2_c3, lt_c3_c4, lt_c4_c5, lt_c5_c6, lt_c6_c7, lt_c7_c8, lt_c8_c9, lt_c9_c10, lt_c10_c11, lt_c11_c12, od_s_WIN, od_s_LOSS, od_s_DRAW, od_s_SW, od_s_EM, od_s_WIN, od_s_LOSS, od_e2_, od_e3_, hv0, hv1, hv2, hv3, (Or.inl ⟨rfl, rfl⟩), (Or.inr (Or.inl ⟨rfl, rfl⟩)), he2, he3⟩) (by decide) (by decide)
  · refine aN X0 hx (hb Y d12_0) rfl rfl <| f_face X0 hx hZ hO (by rw [hml]; rfl) (xi := yl13) (y := y13) (w91 hw) (w92 hw) (mvT hZ (w93 hw)) (w94 hw) (w95 hw) (w96 hw) (w97 hw) (w98 hw) (w23 hw) (w99 hw) e0 E_c9 (argsL := []) (rest := []) (q580 l Z a0 hw [] h0 n0 c9 F_c9_s) (lenOf pd9 rfl) (hb Y d12_1) fun T667 L667 v667 X667 hQ667 => ?_
    obtain ⟨rfl, N667q, e667⟩ := hQ667
    have N667 := Fr.app N0 N667q
    refine aN X667 hx (hb Y d12_6) rfl rfl <| gF X667 hx hZ hO (w15 hw) Via.refl e667 F_c1_wins (hb Y d12_7) fun T669 X669 e669 => ?_
    refine f_len X669 hx hZ e669 V_c2 (hb Y d12_10) <| cY X669 hx (pc := 11) 38 (hb Y d12_11) <| iK X669 hx (z := 0) (hb Y d12_38) <| sN X669 hx (L' := #[(rv c1), (rv c9), (iv 0), .unset]) (hb Y d12_39) rfl <| iK X669 hx (z := 0) (hb Y d12_40) <| sN X669 hx (L' := #[(rv c1), (rv c9), (iv 0), (iv 0)]) (hb Y d12_41) rfl <| iN X669 hx (hb Y d12_42) rfl <| aN X669 hx (hb Y d12_43) rfl rfl <| f_face X669 hx hZ hO (by rw [hml]; rfl) (xi := yl13) (y := y13) (w91 hw) (w92 hw) (mvT hZ (w93 hw)) (w94 hw) (w95 hw) (w96 hw) (w97 hw) (w98 hw) (w23 hw) (w99 hw) e669 E_c9 (argsL := []) (rest := [(.int 0)]) (q580 l Z a0 hw [] h0 n0 c9 F_c9_s) (lenOf pd9 rfl) (hb Y d12_44) fun T670 L670 v670 X670 hQ670 => ?_
    obtain ⟨rfl, N670q, e670⟩ := hQ670
    have N670 := Fr.app N667 N670q
    refine cN X670 hx (hb Y d12_49) <| f_getS X670 hx hZ hO (w100 hw) e670 S__SwitchMap_com_example_g (hb Y d12_52) fun T672 X672 e672 => ?_
    refine aN X672 hx (hb Y d12_55) rfl rfl <| iN X672 hx (hb Y d12_56) rfl <| f_face X672 hx hZ hO (by rw [hml]; rfl) (xi := yl18) (y := y14) (w103 hw) (w104 hw) (mvT hZ (w105 hw)) (w106 hw) (w107 hw) (w108 hw) (w109 hw) (w98 hw) (w23 hw) (w110 hw) e672 E_c9 (argsL := [(.int 0)]) (rest := [(.ref s_SW)]) (q680 l Z a0 hw [] h0 n0 c9 c10 kc7 s_WIN s_DRAW F_c9_s F_c9_elementData V_c10 E_c9) (lenOf pd11 rfl) (hb Y d12_57) fun T673 L673 v673 X673 hQ673 => ?_
    obtain ⟨rfl, N673q, e673⟩ := hQ673
    have N673 := Fr.app N670 N673q
    refine f_cast1 X673 hx hZ hO (w124 hw) e673 (Ins.self E_s_WIN) (hb Y d12_62) fun T681 X681 e681 => ?_
    refine f_up X681 hx hZ hO (by rw [hml]; rfl) (xi := yl20) (y := y18) (owner := "java/lang/Enum") (w126 hw) (w127 hw) (w128 hw) (w130 hw) (w129 hw) (w131 hw) (w132 hw) e681 E_s_WIN (argsL := []) (rest := [(.ref s_SW)]) (q598 l Z a0 hw [] h0 n0 s_WIN F_s_WIN_ordinal) (lenOf pd9 rfl) (hb Y d12_65) fun T682 L682 v682 X682 hQ682 => ?_
    obtain ⟨rfl, N682q, e682⟩ := hQ682
    have N682 := Fr.app N673 N682q
    refine f_iald X682 hx hZ e682 V_s_SW (v := (.int 1)) rfl (hb Y d12_68) <| f_tsw X682 hx (o := 27) (pc := 69) 96 (hb Y d12_69) (by decide +kernel) (by decide +kernel) <| aN X682 hx (hb Y d12_96) rfl rfl <| gF X682 hx hZ hO (w15 hw) Via.refl e682 F_c1_wins (hb Y d12_97) fun T684 X684 e684 => ?_
    refine iN X684 hx (hb Y d12_100) rfl <| f_dup2 X684 hx (hb Y d12_101) rfl rfl <| f_iald X684 hx hZ e684 V_c2 (v := (.int n3_)) rfl (hb Y d12_102) <| iK X684 hx (z := 1) (hb Y d12_103) <| iA X684 hx (z := (n3_ + (1 : Int32))) (hb Y d12_104) (q := rfl) <| f_ist X684 hx hZ e684 V_c2 0 (hb Y d12_105) fun T685 h685 X685 e685 W685 V685 => ?_
    have N685x := Fr.snoc X685 N682 (by omega : n0 ≤ c2)
    refine gT X685 hx (pc := 106) 135 (hb Y d12_106) <| f_iinc X685 hx (L' := #[(rv c1), (rv c9), (iv 0), (iv 1)]) (hb Y d12_135) rfl rfl <| gT X685 hx (pc := 138) 42 (hb Y d12_138) <| iN X685 hx (hb Y d12_42) rfl <| aN X685 hx (hb Y d12_43) rfl rfl ?_
    replace F_c9_s := (fo W685 F_c9_s)
    replace E_c9 := (xw W685 E_c9)
    refine f_face X685 hx hZ hO (by rw [hml]; rfl) (xi := yl13) (y := y13) (w91 hw) (w92 hw) (mvT hZ (w93 hw)) (w94 hw) (w95 hw) (w96 hw) (w97 hw) (w98 hw) (w23 hw) (w99 hw) e685 E_c9 (argsL := []) (rest := [(.int 1)]) (q580 l Z a0 hw [] h685 n0 c9 F_c9_s) (lenOf pd9 rfl) (hb Y d12_44) fun T686 L686 v686 X686 hQ686 => ?_
    obtain ⟨rfl, N686q, e686⟩ := hQ686
    have N686 := Fr.app N685x N686q
    refine cN X686 hx (hb Y d12_49) ?_
    replace S__SwitchMap_com_example_g := (Sta.wr W685 S__SwitchMap_com_example_g)
    refine f_getS X686 hx hZ hO (w100 hw) e686 S__SwitchMap_com_example_g (hb Y d12_52) fun T688 X688 e688 => ?_
    refine aN X688 hx (hb Y d12_55) rfl rfl <| iN X688 hx (hb Y d12_56) rfl ?_
    replace F_c9_elementData := (fo W685 F_c9_elementData)
    replace V_c10 := (vo V_c10 W685)
    refine f_face X688 hx hZ hO (by rw [hml]; rfl) (xi := yl18) (y := y14) (w103 hw) (w104 hw) (mvT hZ (w105 hw)) (w106 hw) (w107 hw) (w108 hw) (w109 hw) (w98 hw) (w23 hw) (w110 hw) e688 E_c9 (argsL := [(.int 1)]) (rest := [(.ref s_SW)]) (q696 l Z a0 hw [] h685 n0 c9 c10 kc7 s_WIN s_DRAW F_c9_s F_c9_elementData V_c10 E_c9) (lenOf pd11 rfl) (hb Y d12_57) fun T689 L689 v689 X689 hQ689 => ?_
    obtain ⟨rfl, N689q, e689⟩ := hQ689
    have N689 := Fr.app N686 N689q
    replace E_s_DRAW := (xw W685 E_s_DRAW)
    refine f_cast1 X689 hx hZ hO (w124 hw) e689 (Ins.self E_s_DRAW) (hb Y d12_62) fun T697 X697 e697 => ?_
    replace F_s_DRAW_ordinal := (fo W685 F_s_DRAW_ordinal)
    refine f_up X697 hx hZ hO (by rw [hml]; rfl) (xi := yl20) (y := y18) (owner := "java/lang/Enum") (w126 hw) (w127 hw) (w128 hw) (w130 hw) (w129 hw) (w131 hw) (w132 hw) e697 E_s_DRAW (argsL := []) (rest := [(.ref s_SW)]) (q700 l Z a0 hw [] h685 n0 s_DRAW F_s_DRAW_ordinal) (lenOf pd9 rfl) (hb Y d12_65) fun T698 L698 v698 X698 hQ698 => ?_
    obtain ⟨rfl, N698q, e698⟩ := hQ698
    have N698 := Fr.app N689 N698q
    replace V_s_SW := (vo V_s_SW W685)
    refine f_iald X698 hx hZ e698 V_s_SW (v := (.int 2)) rfl (hb Y d12_68) <| f_tsw X698 hx (o := 40) (pc := 69) 109 (hb Y d12_69) (by decide +kernel) (by decide +kernel) <| aN X698 hx (hb Y d12_109) rfl rfl ?_
    replace F_c1_draws := (fo W685 F_c1_draws)
    refine gF X698 hx hZ hO (w17 hw) Via.refl e698 F_c1_draws (hb Y d12_110) fun T701 X701 e701 => ?_
    refine iN X701 hx (hb Y d12_113) rfl <| f_dup2 X701 hx (hb Y d12_114) rfl rfl ?_
    replace V_c3 := (vo V_c3 W685)
    refine f_iald X701 hx hZ e701 V_c3 (v := (.int n6_)) rfl (hb Y d12_115) <| iK X701 hx (z := 1) (hb Y d12_116) <| iA X701 hx (z := (n6_ + (1 : Int32))) (hb Y d12_117) (q := rfl) <| f_ist X701 hx hZ e701 V_c3 1 (hb Y d12_118) fun T702 h702 X702 e702 W702 V702 => ?_
    have N702x := Fr.snoc X702 N698 (by omega : n0 ≤ c3)
    refine f_iinc X702 hx (L' := #[(rv c1), (rv c9), (iv 1), (iv 1)]) (hb Y d12_119) rfl rfl <| gT X702 hx (pc := 122) 135 (hb Y d12_122) <| f_iinc X702 hx (L' := #[(rv c1), (rv c9), (iv 1), (iv 2)]) (hb Y d12_135) rfl rfl <| gT X702 hx (pc := 138) 42 (hb Y d12_138) <| iN X702 hx (hb Y d12_42) rfl <| aN X702 hx (hb Y d12_43) rfl rfl ?_
    replace F_c9_s := (fo W702 F_c9_s)
    replace E_c9 := (xw W702 E_c9)
    refine f_face X702 hx hZ hO (by rw [hml]; rfl) (xi := yl13) (y := y13) (w91 hw) (w92 hw) (mvT hZ (w93 hw)) (w94 hw) (w95 hw) (w96 hw) (w97 hw) (w98 hw) (w23 hw) (w99 hw) e702 E_c9 (argsL := []) (rest := [(.int 2)]) (q580 l Z a0 hw [] h702 n0 c9 F_c9_s) (lenOf pd9 rfl) (hb Y d12_44) fun T703 L703 v703 X703 hQ703 => ?_
    obtain ⟨rfl, N703q, e703⟩ := hQ703
    have N703 := Fr.app N702x N703q
    refine cY X703 hx (pc := 49) 141 (hb Y d12_49) <| iN X703 hx (hb Y d12_141) rfl <| aN X703 hx (hb Y d12_142) rfl rfl <| f_face X703 hx hZ hO (by rw [hml]; rfl) (xi := yl13) (y := y13) (w91 hw) (w92 hw) (mvT hZ (w93 hw)) (w94 hw) (w95 hw) (w96 hw) (w97 hw) (w98 hw) (w23 hw) (w99 hw) e703 E_c9 (argsL := []) (rest := [(.int 1)]) (q580 l Z a0 hw [] h702 n0 c9 F_c9_s) (lenOf pd9 rfl) (hb Y d12_143) fun T705 L705 v705 X705 hQ705 => ?_
    obtain ⟨rfl, N705q, e705⟩ := hQ705
    have N705 := Fr.app N703 N705q
    refine cY X705 hx (pc := 148) 161 (hb Y d12_148) <| aN X705 hx (hb Y d12_161) rfl rfl <| f_dup X705 hx (hb Y d12_162) rfl ?_
    replace F_c1_matches := (fo W702 (fo W685 F_c1_matches))
    refine gF X705 hx hZ hO (w135 hw) Via.refl e705 F_c1_matches (hb Y d12_163) fun T707 X707 e707 => ?_
    refine iK X707 hx (z := 1) (hb Y d12_166) <| iA X707 hx (z := (n1_ + (1 : Int32))) (hb Y d12_167) (q := rfl) ?_
    replace E_c1 := (xw W702 (xw W685 E_c1))
    refine f_putF X707 hx hZ hO (w135 hw) Via.refl e707 F_c1_matches E_c1 (Or.inl (w136 hw)) (w6 hw) (ty := .int) (by decide) rfl rfl (hb Y d12_168) fun T708 h708 X708 e708 W708 => ?_
    have N708x := Fr.snoc X708 N705 (by omega : n0 ≤ c1)
    exact f_ret0 X708 hx hlk hret (hb Y d12_171) (QQ := _) (by rw [e708]; exact ⟨rfl, N708x, (Sta.wr W708 (Sta.wr W702 (Sta.wr W685 S_WIN))), (Sta.wr W708 (Sta.wr W702 (Sta.wr W685 S_LOSS))), (Sta.wr W708 (Sta.wr W702 (Sta.wr W685 S_DRAW))), (Sta.wr W708 (Sta.wr W702 S__SwitchMap_com_example_g)), (Sta.wr W708 (Sta.wr W702 (Sta.wr W685 S_DEFAULTCAPACITY_EMPTY_EL))), (xw W708 (xw W702 (xw W685 E_s_WIN))), (fo W708 (fo W702 (fo W685 F_s_WIN_ordinal))), (xw W708 (xw W702 (xw W685 E_s_LOSS))), (fo W708 (fo W702 (fo W685 F_s_LOSS_ordinal))), (xw W708 (xw W702 E_s_DRAW)), (fo W708 (fo W702 F_s_DRAW_ordinal)), (vo (vo V_s_SW W702) W708), (vo (vo (vo V_s_EM W685) W702) W708), (xw W708 E_c1), (Fld.other W708 (fo W702 (fo W685 F_c1_wins)) (Or.inr (slot_ne (Or.inr (w16 hw)) (Or.inl (w136 hw)) (by decide) (t := (.array .int)) (t' := .int) (by decide) (by decide)))), (Fld.other W708 (fo W702 F_c1_draws) (Or.inr (slot_ne (Or.inr (w18 hw)) (Or.inl (w136 hw)) (by decide) (t := (.array .int)) (t' := .int) (by decide) (by decide)))), (Fld.other W708 (fo W702 (fo W685 F_c1_losses)) (Or.inr (slot_ne (Or.inr (w20 hw)) (Or.inl (w136 hw)) (by decide) (t := (.array .int)) (t' := .int) (by decide) (by decide)))), (Fld.same W708 F_c1_matches), (Fld.other W708 (fo W702 (fo W685 F_c1_drawnMatches)) (Or.inr (slot_ne (Or.inl (w143 hw)) (Or.inl (w136 hw)) (by decide) (t := .int) (t' := .int) (by decide) (by decide)))), (vo (vo V685 W702) W708), (vo V702 W708), (vo (vo (vo V_c4 W685) W702) W708), (xw W708 (xw W702 (xw W685 E_c5))), (fo W708 (fo W702 (fo W685 F_c5_wins))), (fo W708 (fo W702 (fo W685 F_c5_draws))), (fo W708 (fo W702 (fo W685 F_c5_losses))), (fo W708 (fo W702 (fo W685 F_c5_matches))), (fo W708 (fo W702 (fo W685 F_c5_drawnMatches))), (vo (vo (vo V_c6 W685) W702) W708), (vo (vo (vo V_c7 W685) W702) W708), (vo (vo (vo V_c8 W685) W702) W708), (xw W708 E_c9), (fo W708 (fo W702 (fo W685 F_c9_modCount))), (fo W708 (fo W702 F_c9_elementData)), (fo W708 F_c9_s), (xw W708 (xw W702 (xw W685 E_s_WIN))), (xw W708 (xw W702 (xw W685 E_c10))), (vo (vo V_c10 W702) W708), O_c10, (xw W708 (xw W702 E_s_DRAW)), (xw W708 (xw W702 (xw W685 E_c11))), (fo W708 (fo W702 (fo W685 F_c11_modCount))), (fo W708 (fo W702 (fo W685 F_c11_elementData))), (fo W708 (fo W702 (fo W685 F_c11_s))), (xw W708 (xw W702 (xw W685 E_e2_))), (xw W708 (xw W702 (xw W685 E_c12))), (vo (vo (vo V_c12 W685) W702) W708), O_c12, (xw W708 (xw W702 (xw W685 E_e3_))), g_c1, lt_c1_c2, lt_c2_c3, lt_c3_c4, lt_c4_c5, lt_c5_c6, lt_c6_c7, lt_c7_c8, lt_c8_c9, lt_c9_c10, lt_c10_c11, lt_c11_c12, od_s_WIN, od_s_LOSS, od_s_DRAW, od_s_SW, od_s_EM, od_s_WIN, od_s_DRAW, od_e2_, od_e3_, hv0, hv1, hv2, hv3, (Or.inl ⟨rfl, rfl⟩), (Or.inr (Or.inr ⟨rfl, rfl⟩)), he2, he3⟩) (by decide) (by decide)
  · refine aN X0 hx (hb Y d12_0) rfl rfl <| f_face X0 hx hZ hO (by rw [hml]; rfl) (xi := yl13) (y := y13) (w91 hw) (w92 hw) (mvT hZ (w93 hw)) (w94 hw) (w95 hw) (w96 hw) (w97 hw) (w98 hw) (w23 hw) (w99 hw) e0 E_c9 (argsL := []) (rest := []) (q580 l Z a0 hw [] h0 n0 c9 F_c9_s) (lenOf pd9 rfl) (hb Y d12_1) fun T709 L709 v709 X709 hQ709 => ?_
    obtain ⟨rfl, N709q, e709⟩ := hQ709
    have N709 := Fr.app N0 N709q
    refine aN X709 hx (hb Y d12_6) rfl rfl <| gF X709 hx hZ hO (w15 hw) Via.refl e709 F_c1_wins (hb Y d12_7) fun T711 X711 e711 => ?_
    refine f_len X711 hx hZ e711 V_c2 (hb Y d12_10) <| cY X711 hx (pc := 11) 38 (hb Y d12_11) <| iK X711 hx (z := 0) (hb Y d12_38) <| sN X711 hx (L' := #[(rv c1), (rv c9), (iv 0), .unset]) (hb Y d12_39) rfl <| iK X711 hx (z := 0) (hb Y d12_40) <| sN X711 hx (L' := #[(rv c1), (rv c9), (iv 0), (iv 0)]) (hb Y d12_41) rfl <| iN X711 hx (hb Y d12_42) rfl <| aN X711 hx (hb Y d12_43) rfl rfl <| f_face X711 hx hZ hO (by rw [hml]; rfl) (xi := yl13) (y := y13) (w91 hw) (w92 hw) (mvT hZ (w93 hw)) (w94 hw) (w95 hw) (w96 hw) (w97 hw) (w98 hw) (w23 hw) (w99 hw) e711 E_c9 (argsL := []) (rest := [(.int 0)]) (q580 l Z a0 hw [] h0 n0 c9 F_c9_s) (lenOf pd9 rfl) (hb Y d12_44) fun T712 L712 v712 X712 hQ712 => ?_
    obtain ⟨rfl, N712q, e712⟩ := hQ712
    have N712 := Fr.app N709 N712q
    refine cN X712 hx (hb Y d12_49) <| f_getS X712 hx hZ hO (w100 hw) e712 S__SwitchMap_com_example_g (hb Y d12_52) fun T714 X714 e714 => ?_
    refine aN X714 hx (hb Y d12_55) rfl rfl <| iN X714 hx (hb Y d12_56) rfl <| f_face X714 hx hZ hO (by rw [hml]; rfl) (xi := yl18) (y := y14) (w103 hw) (w104 hw) (mvT hZ (w105 hw)) (w106 hw) (w107 hw) (w108 hw) (w109 hw) (w98 hw) (w23 hw) (w110 hw) e714 E_c9 (argsL := [(.int 0)]) (rest := [(.ref s_SW)]) (q722 l Z a0 hw [] h0 n0 c9 c10 kc7 s_LOSS s_WIN F_c9_s F_c9_elementData V_c10 E_c9) (lenOf pd11 rfl) (hb Y d12_57) fun T715 L715 v715 X715 hQ715 => ?_
    obtain ⟨rfl, N715q, e715⟩ := hQ715
    have N715 := Fr.app N712 N715q
    refine f_cast1 X715 hx hZ hO (w124 hw) e715 (Ins.self E_s_LOSS) (hb Y d12_62) fun T723 X723 e723 => ?_
    refine f_up X723 hx hZ hO (by rw [hml]; rfl) (xi := yl20) (y := y18) (owner := "java/lang/Enum") (w126 hw) (w127 hw) (w128 hw) (w130 hw) (w129 hw) (w131 hw) (w132 hw) e723 E_s_LOSS (argsL := []) (rest := [(.ref s_SW)]) (q658 l Z a0 hw [] h0 n0 s_LOSS F_s_LOSS_ordinal) (lenOf pd9 rfl) (hb Y d12_65) fun T724 L724 v724 X724 hQ724 => ?_
    obtain ⟨rfl, N724q, e724⟩ := hQ724
    have N724 := Fr.app N715 N724q
    refine f_iald X724 hx hZ e724 V_s_SW (v := (.int 3)) rfl (hb Y d12_68) <| f_tsw X724 hx (o := 56) (pc := 69) 125 (hb Y d12_69) (by decide +kernel) (by decide +kernel) <| aN X724 hx (hb Y d12_125) rfl rfl <| gF X724 hx hZ hO (w19 hw) Via.refl e724 F_c1_losses (hb Y d12_126) fun T726 X726 e726 => ?_
    refine iN X726 hx (hb Y d12_129) rfl <| f_dup2 X726 hx (hb Y d12_130) rfl rfl <| f_iald X726 hx hZ e726 V_c4 (v := (.int n7_)) rfl (hb Y d12_131) <| iK X726 hx (z := 1) (hb Y d12_132) <| iA X726 hx (z := (n7_ + (1 : Int32))) (hb Y d12_133) (q := rfl) <| f_ist X726 hx hZ e726 V_c4 0 (hb Y d12_134) fun T727 h727 X727 e727 W727 V727 => ?_
    have N727x := Fr.snoc X727 N724 (by omega : n0 ≤ c4)
    refine f_iinc X727 hx (L' := #[(rv c1), (rv c9), (iv 0), (iv 1)]) (hb Y d12_135) rfl rfl <| gT X727 hx (pc := 138) 42 (hb Y d12_138) <| iN X727 hx (hb Y d12_42) rfl <| aN X727 hx (hb Y d12_43) rfl rfl ?_
    replace F_c9_s := (fo W727 F_c9_s)
    replace E_c9 := (xw W727 E_c9)
    refine f_face X727 hx hZ hO (by rw [hml]; rfl) (xi := yl13) (y := y13) (w91 hw) (w92 hw) (mvT hZ (w93 hw)) (w94 hw) (w95 hw) (w96 hw) (w97 hw) (w98 hw) (w23 hw) (w99 hw) e727 E_c9 (argsL := []) (rest := [(.int 1)]) (q580 l Z a0 hw [] h727 n0 c9 F_c9_s) (lenOf pd9 rfl) (hb Y d12_44) fun T728 L728 v728 X728 hQ728 => ?_
    obtain ⟨rfl, N728q, e728⟩ := hQ728
    have N728 := Fr.app N727x N728q
    refine cN X728 hx (hb Y d12_49) ?_
    replace S__SwitchMap_com_example_g := (Sta.wr W727 S__SwitchMap_com_example_g)
    refine f_getS X728 hx hZ hO (w100 hw) e728 S__SwitchMap_com_example_g (hb Y d12_52) fun T730 X730 e730 => ?_
    refine aN X730 hx (hb Y d12_55) rfl rfl <| iN X730 hx (hb Y d12_56) rfl ?_
    replace F_c9_elementData := (fo W727 F_c9_elementData)
    replace V_c10 := (vo V_c10 W727)
    refine f_face X730 hx hZ hO (by rw [hml]; rfl) (xi := yl18) (y := y14) (w103 hw) (w104 hw) (mvT hZ (w105 hw)) (w106 hw) (w107 hw) (w108 hw) (w109 hw) (w98 hw) (w23 hw) (w110 hw) e730 E_c9 (argsL := [(.int 1)]) (rest := [(.ref s_SW)]) (q738 l Z a0 hw [] h727 n0 c9 c10 kc7 s_LOSS s_WIN F_c9_s F_c9_elementData V_c10 E_c9) (lenOf pd11 rfl) (hb Y d12_57) fun T731 L731 v731 X731 hQ731 => ?_
    obtain ⟨rfl, N731q, e731⟩ := hQ731
    have N731 := Fr.app N728 N731q
    replace E_s_WIN := (xw W727 E_s_WIN)
    refine f_cast1 X731 hx hZ hO (w124 hw) e731 (Ins.self E_s_WIN) (hb Y d12_62) fun T739 X739 e739 => ?_
    replace F_s_WIN_ordinal := (fo W727 F_s_WIN_ordinal)
    refine f_up X739 hx hZ hO (by rw [hml]; rfl) (xi := yl20) (y := y18) (owner := "java/lang/Enum") (w126 hw) (w127 hw) (w128 hw) (w130 hw) (w129 hw) (w131 hw) (w132 hw) e739 E_s_WIN (argsL := []) (rest := [(.ref s_SW)]) (q598 l Z a0 hw [] h727 n0 s_WIN F_s_WIN_ordinal) (lenOf pd9 rfl) (hb Y d12_65) fun T740 L740 v740 X740 hQ740 => ?_
    obtain ⟨rfl, N740q, e740⟩ := hQ740
    have N740 := Fr.app N731 N740q
    replace V_s_SW := (vo V_s_SW W727)
    refine f_iald X740 hx hZ e740 V_s_SW (v := (.int 1)) rfl (hb Y d12_68) <| f_tsw X740 hx (o := 27) (pc := 69) 96 (hb Y d12_69) (by decide +kernel) (by decide +kernel) <| aN X740 hx (hb Y d12_96) rfl rfl ?_
    replace F_c1_wins := (fo W727 F_c1_wins)
    refine gF X740 hx hZ hO (w15 hw) Via.refl e740 F_c1_wins (hb Y d12_97) fun T742 X742 e742 => ?_
    refine iN X742 hx (hb Y d12_100) rfl <| f_dup2 X742 hx (hb Y d12_101) rfl rfl ?_
    replace V_c2 := (vo V_c2 W727)
    refine f_iald X742 hx hZ e742 V_c2 (v := (.int n4_)) rfl (hb Y d12_102) <| iK X742 hx (z := 1) (hb Y d12_103) <| iA X742 hx (z := (n4_ + (1 : Int32))) (hb Y d12_104) (q := rfl) <| f_ist X742 hx hZ e742 V_c2 1 (hb Y d12_105) fun T743 h743 X743 e743 W743 V743 => ?_
    have N743x := Fr.snoc X743 N740 (by omega : n0 ≤ c2)
    refine gT X743 hx (pc := 106) 135 (hb Y d12_106) <| f_iinc X743 hx (L' := #[(rv c1), (rv c9), (iv 0), (iv 2)]) (hb Y d12_135) rfl rfl <| gT X743 hx (pc := 138) 42 (hb Y d12_138) <| iN X743 hx (hb Y d12_42) rfl <| aN X743 hx (hb Y d12_43) rfl rfl ?_
    replace F_c9_s := (fo W743 F_c9_s)
    replace E_c9 := (xw W743 E_c9)
    refine f_face X743 hx hZ hO (by rw [hml]; rfl) (xi := yl13) (y := y13) (w91 hw) (w92 hw) (mvT hZ (w93 hw)) (w94 hw) (w95 hw) (w96 hw) (w97 hw) (w98 hw) (w23 hw) (w99 hw) e743 E_c9 (argsL := []) (rest := [(.int 2)]) (q580 l Z a0 hw [] h743 n0 c9 F_c9_s) (lenOf pd9 rfl) (hb Y d12_44) fun T744 L744 v744 X744 hQ744 => ?_
    obtain ⟨rfl, N744q, e744⟩ := hQ744
    have N744 := Fr.app N743x N744q
    refine cY X744 hx (pc := 49) 141 (hb Y d12_49) <| iN X744 hx (hb Y d12_141) rfl <| aN X744 hx (hb Y d12_142) rfl rfl <| f_face X744 hx hZ hO (by rw [hml]; rfl) (xi := yl13) (y := y13) (w91 hw) (w92 hw) (mvT hZ (w93 hw)) (w94 hw) (w95 hw) (w96 hw) (w97 hw) (w98 hw) (w23 hw) (w99 hw) e744 E_c9 (argsL := []) (rest := [(.int 0)]) (q580 l Z a0 hw [] h743 n0 c9 F_c9_s) (lenOf pd9 rfl) (hb Y d12_143) fun T746 L746 v746 X746 hQ746 => ?_
    obtain ⟨rfl, N746q, e746⟩ := hQ746
    have N746 := Fr.app N744 N746q
    refine cY X746 hx (pc := 148) 161 (hb Y d12_148) <| aN X746 hx (hb Y d12_161) rfl rfl <| f_dup X746 hx (hb Y d12_162) rfl ?_
    replace F_c1_matches := (fo W743 (fo W727 F_c1_matches))
    refine gF X746 hx hZ hO (w135 hw) Via.refl e746 F_c1_matches (hb Y d12_163) fun T748 X748 e748 => ?_
    refine iK X748 hx (z := 1) (hb Y d12_166) <| iA X748 hx (z := (n1_ + (1 : Int32))) (hb Y d12_167) (q := rfl) ?_
    replace E_c1 := (xw W743 (xw W727 E_c1))
    refine f_putF X748 hx hZ hO (w135 hw) Via.refl e748 F_c1_matches E_c1 (Or.inl (w136 hw)) (w6 hw) (ty := .int) (by decide) rfl rfl (hb Y d12_168) fun T749 h749 X749 e749 W749 => ?_
    have N749x := Fr.snoc X749 N746 (by omega : n0 ≤ c1)
    exact f_ret0 X749 hx hlk hret (hb Y d12_171) (QQ := _) (by rw [e749]; exact ⟨rfl, N749x, (Sta.wr W749 (Sta.wr W743 (Sta.wr W727 S_WIN))), (Sta.wr W749 (Sta.wr W743 (Sta.wr W727 S_LOSS))), (Sta.wr W749 (Sta.wr W743 (Sta.wr W727 S_DRAW))), (Sta.wr W749 (Sta.wr W743 S__SwitchMap_com_example_g)), (Sta.wr W749 (Sta.wr W743 (Sta.wr W727 S_DEFAULTCAPACITY_EMPTY_EL))), (xw W749 (xw W743 E_s_WIN)), (fo W749 (fo W743 F_s_WIN_ordinal)), (xw W749 (xw W743 (xw W727 E_s_LOSS))), (fo W749 (fo W743 (fo W727 F_s_LOSS_ordinal))), (xw W749 (xw W743 (xw W727 E_s_DRAW))), (fo W749 (fo W743 (fo W727 F_s_DRAW_ordinal))), (vo (vo V_s_SW W743) W749), (vo (vo (vo V_s_EM W727) W743) W749), (xw W749 E_c1), (Fld.other W749 (fo W743 F_c1_wins) (Or.inr (slot_ne (Or.inr (w16 hw)) (Or.inl (w136 hw)) (by decide) (t := (.array .int)) (t' := .int) (by decide) (by decide)))), (Fld.other W749 (fo W743 (fo W727 F_c1_draws)) (Or.inr (slot_ne (Or.inr (w18 hw)) (Or.inl (w136 hw)) (by decide) (t := (.array .int)) (t' := .int) (by decide) (by decide)))), (Fld.other W749 (fo W743 (fo W727 F_c1_losses)) (Or.inr (slot_ne (Or.inr (w20 hw)) (Or.inl (w136 hw)) (by decide) (t := (.array .int)) (t' := .int) (by decide) (by decide)))), (Fld.same W749 F_c1_matches), (Fld.other W749 (fo W743 (fo W727 F_c1_drawnMatches)) (Or.inr (slot_ne (Or.inl (w143 hw)) (Or.inl (w136 hw)) (by decide) (t := .int) (t' := .int) (by decide) (by decide)))), (vo V743 W749), (vo (vo (vo V_c3 W727) W743) W749), (vo (vo V727 W743) W749), (xw W749 (xw W743 (xw W727 E_c5))), (fo W749 (fo W743 (fo W727 F_c5_wins))), (fo W749 (fo W743 (fo W727 F_c5_draws))), (fo W749 (fo W743 (fo W727 F_c5_losses))), (fo W749 (fo W743 (fo W727 F_c5_matches))), (fo W749 (fo W743 (fo W727 F_c5_drawnMatches))), (vo (vo (vo V_c6 W727) W743) W749), (vo (vo (vo V_c7 W727) W743) W749), (vo (vo (vo V_c8 W727) W743) W749), (xw W749 E_c9), (fo W749 (fo W743 (fo W727 F_c9_modCount))), (fo W749 (fo W743 F_c9_elementData)), (fo W749 F_c9_s), (xw W749 (xw W743 (xw W727 E_s_LOSS))), (xw W749 (xw W743 (xw W727 E_c10))), (vo (vo V_c10 W743) W749), O_c10, (xw W749 (xw W743 E_s_WIN)), (xw W749 (xw W743 (xw W727 E_c11))), (fo W749 (fo W743 (fo W727 F_c11_modCount))), (fo W749 (fo W743 (fo W727 F_c11_elementData))), (fo W749 (fo W743 (fo W727 F_c11_s))), (xw W749 (xw W743 (xw W727 E_e2_))), (xw W749 (xw W743 (xw W727 E_c12))), (vo (vo (vo V_c12 W727) W743) W749), O_c12, (xw W749 (xw W743 (xw W727 E_e3_))), g_c1, lt_c1_c2, lt_c2_c3, lt_c3_c4, lt_c4_c5, lt_c5_c6, lt_c6_c7, lt_c7_c8, lt_c8_c9, lt_c9_c10, lt_c10_c11, lt_c11_c12, od_s_WIN, od_s_LOSS, od_s_DRAW, od_s_SW, od_s_EM, od_s_LOSS, od_s_WIN, od_e2_, od_e3_, hv0, hv1, hv2, hv3, (Or.inr (Or.inl ⟨rfl, rfl⟩)), (Or.inl ⟨rfl, rfl⟩), he2, he3⟩) (by decide) (by decide)
  · refine aN X0 hx (hb Y d12_0) rfl rfl <| f_face X0 hx hZ hO (by rw [hml]; rfl) (xi := yl13) (y := y13) (w91 hw) (w92 hw) (mvT hZ (w93 hw)) (w94 hw) (w95 hw) (w96 hw) (w97 hw) (w98 hw) (w23 hw) (w99 hw) e0 E_c9 (argsL := []) (rest := []) (q580 l Z a0 hw [] h0 n0 c9 F_c9_s) (lenOf pd9 rfl) (hb Y d12_1) fun T750 L750 v750 X750 hQ750 => ?_
    obtain ⟨rfl, N750q, e750⟩ := hQ750
    have N750 := Fr.app N0 N750q
    refine aN X750 hx (hb Y d12_6) rfl rfl <| gF X750 hx hZ hO (w15 hw) Via.refl e750 F_c1_wins (hb Y d12_7) fun T752 X752 e752 => ?_
    refine f_len X752 hx hZ e752 V_c2 (hb Y d12_10) <| cY X752 hx (pc := 11) 38 (hb Y d12_11) <| iK X752 hx (z := 0) (hb Y d12_38) <| sN X752 hx (L' := #[(rv c1), (rv c9), (iv 0), .unset]) (hb Y d12_39) rfl <| iK X752 hx (z := 0) (hb Y d12_40) <| sN X752 hx (L' := #[(rv c1), (rv c9), (iv 0), (iv 0)]) (hb Y d12_41) rfl <| iN X752 hx (hb Y d12_42) rfl <| aN X752 hx (hb Y d12_43) rfl rfl <| f_face X752 hx hZ hO (by rw [hml]; rfl) (xi := yl13) (y := y13) (w91 hw) (w92 hw) (mvT hZ (w93 hw)) (w94 hw) (w95 hw) (w96 hw) (w97 hw) (w98 hw) (w23 hw) (w99 hw) e752 E_c9 (argsL := []) (rest := [(.int 0)]) (q580 l Z a0 hw [] h0 n0 c9 F_c9_s) (lenOf pd9 rfl) (hb Y d12_44) fun T753 L753 v753 X753 hQ753 => ?_
    obtain ⟨rfl, N753q, e753⟩ := hQ753
    have N753 := Fr.app N750 N753q
    refine cN X753 hx (hb Y d12_49) <| f_getS X753 hx hZ hO (w100 hw) e753 S__SwitchMap_com_example_g (hb Y d12_52) fun T755 X755 e755 => ?_
    refine aN X755 hx (hb Y d12_55) rfl rfl <| iN X755 hx (hb Y d12_56) rfl <| f_face X755 hx hZ hO (by rw [hml]; rfl) (xi := yl18) (y := y14) (w103 hw) (w104 hw) (mvT hZ (w105 hw)) (w106 hw) (w107 hw) (w108 hw) (w109 hw) (w98 hw) (w23 hw) (w110 hw) e755 E_c9 (argsL := [(.int 0)]) (rest := [(.ref s_SW)]) (q763 l Z a0 hw [] h0 n0 c9 c10 kc7 s_LOSS F_c9_s F_c9_elementData V_c10 E_c9) (lenOf pd11 rfl) (hb Y d12_57) fun T756 L756 v756 X756 hQ756 => ?_
    obtain ⟨rfl, N756q, e756⟩ := hQ756
    have N756 := Fr.app N753 N756q
    refine f_cast1 X756 hx hZ hO (w124 hw) e756 (Ins.self E_s_LOSS) (hb Y d12_62) fun T764 X764 e764 => ?_
    refine f_up X764 hx hZ hO (by rw [hml]; rfl) (xi := yl20) (y := y18) (owner := "java/lang/Enum") (w126 hw) (w127 hw) (w128 hw) (w130 hw) (w129 hw) (w131 hw) (w132 hw) e764 E_s_LOSS (argsL := []) (rest := [(.ref s_SW)]) (q658 l Z a0 hw [] h0 n0 s_LOSS F_s_LOSS_ordinal) (lenOf pd9 rfl) (hb Y d12_65) fun T765 L765 v765 X765 hQ765 => ?_
    obtain ⟨rfl, N765q, e765⟩ := hQ765
    have N765 := Fr.app N756 N765q
    refine f_iald X765 hx hZ e765 V_s_SW (v := (.int 3)) rfl (hb Y d12_68) <| f_tsw X765 hx (o := 56) (pc := 69) 125 (hb Y d12_69) (by decide +kernel) (by decide +kernel) <| aN X765 hx (hb Y d12_125) rfl rfl <| gF X765 hx hZ hO (w19 hw) Via.refl e765 F_c1_losses (hb Y d12_126) fun T767 X767 e767 => ?_
    refine iN X767 hx (hb Y d12_129) rfl <| f_dup2 X767 hx (hb Y d12_130) rfl rfl <| f_iald X767 hx hZ e767 V_c4 (v := (.int n7_)) rfl (hb Y d12_131) <| iK X767 hx (z := 1) (hb Y d12_132) <| iA X767 hx (z := (n7_ + (1 : Int32))) (hb Y d12_133) (q := rfl) <| f_ist X767 hx hZ e767 V_c4 0 (hb Y d12_134) fun T768 h768 X768 e768 W768 V768 => ?_
    have N768x := Fr.snoc X768 N765 (by omega : n0 ≤ c4)
    refine f_iinc X768 hx (L' := #[(rv c1), (rv c9), (iv 0), (iv 1)]) (hb Y d12_135) rfl rfl <| gT X768 hx (pc := 138) 42 (hb Y d12_138) <| iN X768 hx (hb Y d12_42) rfl <| aN X768 hx (hb Y d12_43) rfl rfl ?_
    replace F_c9_s := (fo W768 F_c9_s)
    replace E_c9 := (xw W768 E_c9)
    refine f_face X768 hx hZ hO (by rw [hml]; rfl) (xi := yl13) (y := y13) (w91 hw) (w92 hw) (mvT hZ (w93 hw)) (w94 hw) (w95 hw) (w96 hw) (w97 hw) (w98 hw) (w23 hw) (w99 hw) e768 E_c9 (argsL := []) (rest := [(.int 1)]) (q580 l Z a0 hw [] h768 n0 c9 F_c9_s) (lenOf pd9 rfl) (hb Y d12_44) fun T769 L769 v769 X769 hQ769 => ?_
    obtain ⟨rfl, N769q, e769⟩ := hQ769
    have N769 := Fr.app N768x N769q
    refine cN X769 hx (hb Y d12_49) ?_
    replace S__SwitchMap_com_example_g := (Sta.wr W768 S__SwitchMap_com_example_g)
    refine f_getS X769 hx hZ hO (w100 hw) e769 S__SwitchMap_com_example_g (hb Y d12_52) fun T771 X771 e771 => ?_
    refine aN X771 hx (hb Y d12_55) rfl rfl <| iN X771 hx (hb Y d12_56) rfl ?_
    replace F_c9_elementData := (fo W768 F_c9_elementData)
    replace V_c10 := (vo V_c10 W768)
    refine f_face X771 hx hZ hO (by rw [hml]; rfl) (xi := yl18) (y := y14) (w103 hw) (w104 hw) (mvT hZ (w105 hw)) (w106 hw) (w107 hw) (w108 hw) (w109 hw) (w98 hw) (w23 hw) (w110 hw) e771 E_c9 (argsL := [(.int 1)]) (rest := [(.ref s_SW)]) (q779 l Z a0 hw [] h768 n0 c9 c10 kc7 s_LOSS F_c9_s F_c9_elementData V_c10 E_c9) (lenOf pd11 rfl) (hb Y d12_57) fun T772 L772 v772 X772 hQ772 => ?_
    obtain ⟨rfl, N772q, e772⟩ := hQ772
    have N772 := Fr.app N769 N772q
    replace E_s_LOSS := (xw W768 E_s_LOSS)
    refine f_cast1 X772 hx hZ hO (w124 hw) e772 (Ins.self E_s_LOSS) (hb Y d12_62) fun T780 X780 e780 => ?_
    replace F_s_LOSS_ordinal := (fo W768 F_s_LOSS_ordinal)
    refine f_up X780 hx hZ hO (by rw [hml]; rfl) (xi := yl20) (y := y18) (owner := "java/lang/Enum") (w126 hw) (w127 hw) (w128 hw) (w130 hw) (w129 hw) (w131 hw) (w132 hw) e780 E_s_LOSS (argsL := []) (rest := [(.ref s_SW)]) (q658 l Z a0 hw [] h768 n0 s_LOSS F_s_LOSS_ordinal) (lenOf pd9 rfl) (hb Y d12_65) fun T781 L781 v781 X781 hQ781 => ?_
    obtain ⟨rfl, N781q, e781⟩ := hQ781
    have N781 := Fr.app N772 N781q
    replace V_s_SW := (vo V_s_SW W768)
    refine f_iald X781 hx hZ e781 V_s_SW (v := (.int 3)) rfl (hb Y d12_68) <| f_tsw X781 hx (o := 56) (pc := 69) 125 (hb Y d12_69) (by decide +kernel) (by decide +kernel) <| aN X781 hx (hb Y d12_125) rfl rfl ?_
    replace F_c1_losses := (fo W768 F_c1_losses)
    refine gF X781 hx hZ hO (w19 hw) Via.refl e781 F_c1_losses (hb Y d12_126) fun T783 X783 e783 => ?_
    refine iN X783 hx (hb Y d12_129) rfl <| f_dup2 X783 hx (hb Y d12_130) rfl rfl ?_
    replace V_c4 := V768
    refine f_iald X783 hx hZ e783 V_c4 (v := (.int n8_)) rfl (hb Y d12_131) <| iK X783 hx (z := 1) (hb Y d12_132) <| iA X783 hx (z := (n8_ + (1 : Int32))) (hb Y d12_133) (q := rfl) <| f_ist X783 hx hZ e783 V_c4 1 (hb Y d12_134) fun T784 h784 X784 e784 W784 V784 => ?_
    have N784x := Fr.snoc X784 N781 (by omega : n0 ≤ c4)
    refine f_iinc X784 hx (L' := #[(rv c1), (rv c9), (iv 0), (iv 2)]) (hb Y d12_135) rfl rfl <| gT X784 hx (pc := 138) 42 (hb Y d12_138) <| iN X784 hx (hb Y d12_42) rfl <| aN X784 hx (hb Y d12_43) rfl rfl ?_
    replace F_c9_s := (fo W784 F_c9_s)
    replace E_c9 := (xw W784 E_c9)
    refine f_face X784 hx hZ hO (by rw [hml]; rfl) (xi := yl13) (y := y13) (w91 hw) (w92 hw) (mvT hZ (w93 hw)) (w94 hw) (w95 hw) (w96 hw) (w97 hw) (w98 hw) (w23 hw) (w99 hw) e784 E_c9 (argsL := []) (rest := [(.int 2)]) (q580 l Z a0 hw [] h784 n0 c9 F_c9_s) (lenOf pd9 rfl) (hb Y d12_44) fun T785 L785 v785 X785 hQ785 => ?_
    obtain ⟨rfl, N785q, e785⟩ := hQ785
    have N785 := Fr.app N784x N785q
    refine cY X785 hx (pc := 49) 141 (hb Y d12_49) <| iN X785 hx (hb Y d12_141) rfl <| aN X785 hx (hb Y d12_142) rfl rfl <| f_face X785 hx hZ hO (by rw [hml]; rfl) (xi := yl13) (y := y13) (w91 hw) (w92 hw) (mvT hZ (w93 hw)) (w94 hw) (w95 hw) (w96 hw) (w97 hw) (w98 hw) (w23 hw) (w99 hw) e785 E_c9 (argsL := []) (rest := [(.int 0)]) (q580 l Z a0 hw [] h784 n0 c9 F_c9_s) (lenOf pd9 rfl) (hb Y d12_143) fun T787 L787 v787 X787 hQ787 => ?_
    obtain ⟨rfl, N787q, e787⟩ := hQ787
    have N787 := Fr.app N785 N787q
    refine cY X787 hx (pc := 148) 161 (hb Y d12_148) <| aN X787 hx (hb Y d12_161) rfl rfl <| f_dup X787 hx (hb Y d12_162) rfl ?_
    replace F_c1_matches := (fo W784 (fo W768 F_c1_matches))
    refine gF X787 hx hZ hO (w135 hw) Via.refl e787 F_c1_matches (hb Y d12_163) fun T789 X789 e789 => ?_
    refine iK X789 hx (z := 1) (hb Y d12_166) <| iA X789 hx (z := (n1_ + (1 : Int32))) (hb Y d12_167) (q := rfl) ?_
    replace E_c1 := (xw W784 (xw W768 E_c1))
    refine f_putF X789 hx hZ hO (w135 hw) Via.refl e789 F_c1_matches E_c1 (Or.inl (w136 hw)) (w6 hw) (ty := .int) (by decide) rfl rfl (hb Y d12_168) fun T790 h790 X790 e790 W790 => ?_
    have N790x := Fr.snoc X790 N787 (by omega : n0 ≤ c1)
    exact f_ret0 X790 hx hlk hret (hb Y d12_171) (QQ := _) (by rw [e790]; exact ⟨rfl, N790x, (Sta.wr W790 (Sta.wr W784 (Sta.wr W768 S_WIN))), (Sta.wr W790 (Sta.wr W784 (Sta.wr W768 S_LOSS))), (Sta.wr W790 (Sta.wr W784 (Sta.wr W768 S_DRAW))), (Sta.wr W790 (Sta.wr W784 S__SwitchMap_com_example_g)), (Sta.wr W790 (Sta.wr W784 (Sta.wr W768 S_DEFAULTCAPACITY_EMPTY_EL))), (xw W790 (xw W784 (xw W768 E_s_WIN))), (fo W790 (fo W784 (fo W768 F_s_WIN_ordinal))), (xw W790 (xw W784 E_s_LOSS)), (fo W790 (fo W784 F_s_LOSS_ordinal)), (xw W790 (xw W784 (xw W768 E_s_DRAW))), (fo W790 (fo W784 (fo W768 F_s_DRAW_ordinal))), (vo (vo V_s_SW W784) W790), (vo (vo (vo V_s_EM W768) W784) W790), (xw W790 E_c1), (Fld.other W790 (fo W784 (fo W768 F_c1_wins)) (Or.inr (slot_ne (Or.inr (w16 hw)) (Or.inl (w136 hw)) (by decide) (t := (.array .int)) (t' := .int) (by decide) (by decide)))), (Fld.other W790 (fo W784 (fo W768 F_c1_draws)) (Or.inr (slot_ne (Or.inr (w18 hw)) (Or.inl (w136 hw)) (by decide) (t := (.array .int)) (t' := .int) (by decide) (by decide)))), (Fld.other W790 (fo W784 F_c1_losses) (Or.inr (slot_ne (Or.inr (w20 hw)) (Or.inl (w136 hw)) (by decide) (t := (.array .int)) (t' := .int) (by decide) (by decide)))), (Fld.same W790 F_c1_matches), (Fld.other W790 (fo W784 (fo W768 F_c1_drawnMatches)) (Or.inr (slot_ne (Or.inl (w143 hw)) (Or.inl (w136 hw)) (by decide) (t := .int) (t' := .int) (by decide) (by decide)))), (vo (vo (vo V_c2 W768) W784) W790), (vo (vo (vo V_c3 W768) W784) W790), (vo V784 W790), (xw W790 (xw W784 (xw W768 E_c5))), (fo W790 (fo W784 (fo W768 F_c5_wins))), (fo W790 (fo W784 (fo W768 F_c5_draws))), (fo W790 (fo W784 (fo W768 F_c5_losses))), (fo W790 (fo W784 (fo W768 F_c5_matches))), (fo W790 (fo W784 (fo W768 F_c5_drawnMatches))), (vo (vo (vo V_c6 W768) W784) W790), (vo (vo (vo V_c7 W768) W784) W790), (vo (vo (vo V_c8 W768) W784) W790), (xw W790 E_c9), (fo W790 (fo W784 (fo W768 F_c9_modCount))), (fo W790 (fo W784 F_c9_elementData)), (fo W790 F_c9_s), (xw W790 (xw W784 E_s_LOSS)), (xw W790 (xw W784 (xw W768 E_c10))), (vo (vo V_c10 W784) W790), O_c10, (xw W790 (xw W784 E_s_LOSS)), (xw W790 (xw W784 (xw W768 E_c11))), (fo W790 (fo W784 (fo W768 F_c11_modCount))), (fo W790 (fo W784 (fo W768 F_c11_elementData))), (fo W790 (fo W784 (fo W768 F_c11_s))), (xw W790 (xw W784 (xw W768 E_e2_))), (xw W790 (xw W784 (xw W768 E_c12))), (vo (vo (vo V_c12 W768) W784) W790), O_c12, (xw W790 (xw W784 (xw W768 E_e3_))), g_c1, lt_c1_c2, lt_c2_c3, lt_c3_c4, lt_c4_c5, lt_c5_c6, lt_c6_c7, lt_c7_c8, lt_c8_c9, lt_c9_c10, lt_c10_c11, lt_c11_c12, od_s_WIN, od_s_LOSS, od_s_DRAW, od_s_SW, od_s_EM, od_s_LOSS, od_s_LOSS, od_e2_, od_e3_, hv0, hv1, hv2, hv3, (Or.inr (Or.inl ⟨rfl, rfl⟩)), (Or.inr (Or.inl ⟨rfl, rfl⟩)), he2, he3⟩) (by decide) (by decide)
  · refine aN X0 hx (hb Y d12_0) rfl rfl <| f_face X0 hx hZ hO (by rw [hml]; rfl) (xi := yl13) (y := y13) (w91 hw) (w92 hw) (mvT hZ (w93 hw)) (w94 hw) (w95 hw) (w96 hw) (w97 hw) (w98 hw) (w23 hw) (w99 hw) e0 E_c9 (argsL := []) (rest := []) (q580 l Z a0 hw [] h0 n0 c9 F_c9_s) (lenOf pd9 rfl) (hb Y d12_1) fun T791 L791 v791 X791 hQ791 => ?_
    obtain ⟨rfl, N791q, e791⟩ := hQ791
    have N791 := Fr.app N0 N791q
    refine aN X791 hx (hb Y d12_6) rfl rfl <| gF X791 hx hZ hO (w15 hw) Via.refl e791 F_c1_wins (hb Y d12_7) fun T793 X793 e793 => ?_
    refine f_len X793 hx hZ e793 V_c2 (hb Y d12_10) <| cY X793 hx (pc := 11) 38 (hb Y d12_11) <| iK X793 hx (z := 0) (hb Y d12_38) <| sN X793 hx (L' := #[(rv c1), (rv c9), (iv 0), .unset]) (hb Y d12_39) rfl <| iK X793 hx (z := 0) (hb Y d12_40) <| sN X793 hx (L' := #[(rv c1), (rv c9), (iv 0), (iv 0)]) (hb Y d12_41) rfl <| iN X793 hx (hb Y d12_42) rfl <| aN X793 hx (hb Y d12_43) rfl rfl <| f_face X793 hx hZ hO (by rw [hml]; rfl) (xi := yl13) (y := y13) (w91 hw) (w92 hw) (mvT hZ (w93 hw)) (w94 hw) (w95 hw) (w96 hw) (w97 hw) (w98 hw) (w23 hw) (w99 hw) e793 E_c9 (argsL := []) (rest := [(.int 0)]) (q580 l Z a0 hw [] h0 n0 c9 F_c9_s) (lenOf pd9 rfl) (hb Y d12_44) fun T794 L794 v794 X794 hQ794 => ?_
    obtain ⟨rfl, N794q, e794⟩ := hQ794
    have N794 := Fr.app N791 N794q
    refine cN X794 hx (hb Y d12_49) <| f_getS X794 hx hZ hO (w100 hw) e794 S__SwitchMap_com_example_g (hb Y d12_52) fun T796 X796 e796 => ?_
    refine aN X796 hx (hb Y d12_55) rfl rfl <| iN X796 hx (hb Y d12_56) rfl <| f_face X796 hx hZ hO (by rw [hml]; rfl) (xi := yl18) (y := y14) (w103 hw) (w104 hw) (mvT hZ (w105 hw)) (w106 hw) (w107 hw) (w108 hw) (w109 hw) (w98 hw) (w23 hw) (w110 hw) e796 E_c9 (argsL := [(.int 0)]) (rest := [(.ref s_SW)]) (q804 l Z a0 hw [] h0 n0 c9 c10 kc7 s_LOSS s_DRAW F_c9_s F_c9_elementData V_c10 E_c9) (lenOf pd11 rfl) (hb Y d12_57) fun T797 L797 v797 X797 hQ797 => ?_
    obtain ⟨rfl, N797q, e797⟩ := hQ797
    have N797 := Fr.app N794 N797q
    refine f_cast1 X797 hx hZ hO (w124 hw) e797 (Ins.self E_s_LOSS) (hb Y d12_62) fun T805 X805 e805 => ?_
    refine f_up X805 hx hZ hO (by rw [hml]; rfl) (xi := yl20) (y := y18) (owner := "java/lang/Enum") (w126 hw) (w127 hw) (w128 hw) (w130 hw) (w129 hw) (w131 hw) (w132 hw) e805 E_s_LOSS (argsL := []) (rest := [(.ref s_SW)]) (q658 l Z a0 hw [] h0 n0 s_LOSS F_s_LOSS_ordinal) (lenOf pd9 rfl) (hb Y d12_65) fun T806 L806 v806 X806 hQ806 => ?_
    obtain ⟨rfl, N806q, e806⟩ := hQ806
    have N806 := Fr.app N797 N806q
    refine f_iald X806 hx hZ e806 V_s_SW (v := (.int 3)) rfl (hb Y d12_68) <| f_tsw X806 hx (o := 56) (pc := 69) 125 (hb Y d12_69) (by decide +kernel) (by decide +kernel) <| aN X806 hx (hb Y d12_125) rfl rfl <| gF X806 hx hZ hO (w19 hw) Via.refl e806 F_c1_losses (hb Y d12_126) fun T808 X808 e808 => ?_
    refine iN X808 hx (hb Y d12_129) rfl <| f_dup2 X808 hx (hb Y d12_130) rfl rfl <| f_iald X808 hx hZ e808 V_c4 (v := (.int n7_)) rfl (hb Y d12_131) <| iK X808 hx (z := 1) (hb Y d12_132) <| iA X808 hx (z := (n7_ + (1 : Int32))) (hb Y d12_133) (q := rfl) <| f_ist X808 hx hZ e808 V_c4 0 (hb Y d12_134) fun T809 h809 X809 e809 W809 V809 => ?_
    have N809x := Fr.snoc X809 N806 (by omega : n0 ≤ c4)
    refine f_iinc X809 hx (L' := #[(rv c1), (rv c9), (iv 0), (iv 1)]) (hb Y d12_135) rfl rfl <| gT X809 hx (pc := 138) 42 (hb Y d12_138) <| iN X809 hx (hb Y d12_42) rfl <| aN X809 hx (hb Y d12_43) rfl rfl ?_
    replace F_c9_s := (fo W809 F_c9_s)
    replace E_c9 := (xw W809 E_c9)
    refine f_face X809 hx hZ hO (by rw [hml]; rfl) (xi := yl13) (y := y13) (w91 hw) (w92 hw) (mvT hZ (w93 hw)) (w94 hw) (w95 hw) (w96 hw) (w97 hw) (w98 hw) (w23 hw) (w99 hw) e809 E_c9 (argsL := []) (rest := [(.int 1)]) (q580 l Z a0 hw [] h809 n0 c9 F_c9_s) (lenOf pd9 rfl) (hb Y d12_44) fun T810 L810 v810 X810 hQ810 => ?_
    obtain ⟨rfl, N810q, e810⟩ := hQ810
    have N810 := Fr.app N809x N810q
    refine cN X810 hx (hb Y d12_49) ?_
    replace S__SwitchMap_com_example_g := (Sta.wr W809 S__SwitchMap_com_example_g)
    refine f_getS X810 hx hZ hO (w100 hw) e810 S__SwitchMap_com_example_g (hb Y d12_52) fun T812 X812 e812 => ?_
    refine aN X812 hx (hb Y d12_55) rfl rfl <| iN X812 hx (hb Y d12_56) rfl ?_
    replace F_c9_elementData := (fo W809 F_c9_elementData)
    replace V_c10 := (vo V_c10 W809)
    refine f_face X812 hx hZ hO (by rw [hml]; rfl) (xi := yl18) (y := y14) (w103 hw) (w104 hw) (mvT hZ (w105 hw)) (w106 hw) (w107 hw) (w108 hw) (w109 hw) (w98 hw) (w23 hw) (w110 hw) e812 E_c9 (argsL := [(.int 1)]) (rest := [(.ref s_SW)]) (q820 l Z a0 hw [] h809 n0 c9 c10 kc7 s_LOSS s_DRAW F_c9_s F_c9_elementData V_c10 E_c9) (lenOf pd11 rfl) (hb Y d12_57) fun T813 L813 v813 X813 hQ813 => ?_
    obtain ⟨rfl, N813q, e813⟩ := hQ813
    have N813 := Fr.app N810 N813q
    replace E_s_DRAW := (xw W809 E_s_DRAW)
    refine f_cast1 X813 hx hZ hO (w124 hw) e813 (Ins.self E_s_DRAW) (hb Y d12_62) fun T821 X821 e821 => ?_
    replace F_s_DRAW_ordinal := (fo W809 F_s_DRAW_ordinal)
    refine f_up X821 hx hZ hO (by rw [hml]; rfl) (xi := yl20) (y := y18) (owner := "java/lang/Enum") (w126 hw) (w127 hw) (w128 hw) (w130 hw) (w129 hw) (w131 hw) (w132 hw) e821 E_s_DRAW (argsL := []) (rest := [(.ref s_SW)]) (q700 l Z a0 hw [] h809 n0 s_DRAW F_s_DRAW_ordinal) (lenOf pd9 rfl) (hb Y d12_65) fun T822 L822 v822 X822 hQ822 => ?_
    obtain ⟨rfl, N822q, e822⟩ := hQ822
    have N822 := Fr.app N813 N822q
    replace V_s_SW := (vo V_s_SW W809)
    refine f_iald X822 hx hZ e822 V_s_SW (v := (.int 2)) rfl (hb Y d12_68) <| f_tsw X822 hx (o := 40) (pc := 69) 109 (hb Y d12_69) (by decide +kernel) (by decide +kernel) <| aN X822 hx (hb Y d12_109) rfl rfl ?_
    replace F_c1_draws := (fo W809 F_c1_draws)
    refine gF X822 hx hZ hO (w17 hw) Via.refl e822 F_c1_draws (hb Y d12_110) fun T824 X824 e824 => ?_
    refine iN X824 hx (hb Y d12_113) rfl <| f_dup2 X824 hx (hb Y d12_114) rfl rfl ?_
    replace V_c3 := (vo V_c3 W809)
    refine f_iald X824 hx hZ e824 V_c3 (v := (.int n6_)) rfl (hb Y d12_115) <| iK X824 hx (z := 1) (hb Y d12_116) <| iA X824 hx (z := (n6_ + (1 : Int32))) (hb Y d12_117) (q := rfl) <| f_ist X824 hx hZ e824 V_c3 1 (hb Y d12_118) fun T825 h825 X825 e825 W825 V825 => ?_
    have N825x := Fr.snoc X825 N822 (by omega : n0 ≤ c3)
    refine f_iinc X825 hx (L' := #[(rv c1), (rv c9), (iv 1), (iv 1)]) (hb Y d12_119) rfl rfl <| gT X825 hx (pc := 122) 135 (hb Y d12_122) <| f_iinc X825 hx (L' := #[(rv c1), (rv c9), (iv 1), (iv 2)]) (hb Y d12_135) rfl rfl <| gT X825 hx (pc := 138) 42 (hb Y d12_138) <| iN X825 hx (hb Y d12_42) rfl <| aN X825 hx (hb Y d12_43) rfl rfl ?_
    replace F_c9_s := (fo W825 F_c9_s)
    replace E_c9 := (xw W825 E_c9)
    refine f_face X825 hx hZ hO (by rw [hml]; rfl) (xi := yl13) (y := y13) (w91 hw) (w92 hw) (mvT hZ (w93 hw)) (w94 hw) (w95 hw) (w96 hw) (w97 hw) (w98 hw) (w23 hw) (w99 hw) e825 E_c9 (argsL := []) (rest := [(.int 2)]) (q580 l Z a0 hw [] h825 n0 c9 F_c9_s) (lenOf pd9 rfl) (hb Y d12_44) fun T826 L826 v826 X826 hQ826 => ?_
    obtain ⟨rfl, N826q, e826⟩ := hQ826
    have N826 := Fr.app N825x N826q
    refine cY X826 hx (pc := 49) 141 (hb Y d12_49) <| iN X826 hx (hb Y d12_141) rfl <| aN X826 hx (hb Y d12_142) rfl rfl <| f_face X826 hx hZ hO (by rw [hml]; rfl) (xi := yl13) (y := y13) (w91 hw) (w92 hw) (mvT hZ (w93 hw)) (w94 hw) (w95 hw) (w96 hw) (w97 hw) (w98 hw) (w23 hw) (w99 hw) e826 E_c9 (argsL := []) (rest := [(.int 1)]) (q580 l Z a0 hw [] h825 n0 c9 F_c9_s) (lenOf pd9 rfl) (hb Y d12_143) fun T828 L828 v828 X828 hQ828 => ?_
    obtain ⟨rfl, N828q, e828⟩ := hQ828
    have N828 := Fr.app N826 N828q
    refine cY X828 hx (pc := 148) 161 (hb Y d12_148) <| aN X828 hx (hb Y d12_161) rfl rfl <| f_dup X828 hx (hb Y d12_162) rfl ?_
    replace F_c1_matches := (fo W825 (fo W809 F_c1_matches))
    refine gF X828 hx hZ hO (w135 hw) Via.refl e828 F_c1_matches (hb Y d12_163) fun T830 X830 e830 => ?_
    refine iK X830 hx (z := 1) (hb Y d12_166) <| iA X830 hx (z := (n1_ + (1 : Int32))) (hb Y d12_167) (q := rfl) ?_
    replace E_c1 := (xw W825 (xw W809 E_c1))
    refine f_putF X830 hx hZ hO (w135 hw) Via.refl e830 F_c1_matches E_c1 (Or.inl (w136 hw)) (w6 hw) (ty := .int) (by decide) rfl rfl (hb Y d12_168) fun T831 h831 X831 e831 W831 => ?_
    have N831x := Fr.snoc X831 N828 (by omega : n0 ≤ c1)
    exact f_ret0 X831 hx hlk hret (hb Y d12_171) (QQ := _) (by rw [e831]; exact ⟨rfl, N831x, (Sta.wr W831 (Sta.wr W825 (Sta.wr W809 S_WIN))), (Sta.wr W831 (Sta.wr W825 (Sta.wr W809 S_LOSS))), (Sta.wr W831 (Sta.wr W825 (Sta.wr W809 S_DRAW))), (Sta.wr W831 (Sta.wr W825 S__SwitchMap_com_example_g)), (Sta.wr W831 (Sta.wr W825 (Sta.wr W809 S_DEFAULTCAPACITY_EMPTY_EL))), (xw W831 (xw W825 (xw W809 E_s_WIN))), (fo W831 (fo W825 (fo W809 F_s_WIN_ordinal))), (xw W831 (xw W825 (xw W809 E_s_LOSS))), (fo W831 (fo W825 (fo W809 F_s_LOSS_ordinal))), (xw W831 (xw W825 E_s_DRAW)), (fo W831 (fo W825 F_s_DRAW_ordinal)), (vo (vo V_s_SW W825) W831), (vo (vo (vo V_s_EM W809) W825) W831), (xw W831 E_c1), (Fld.other W831 (fo W825 (fo W809 F_c1_wins)) (Or.inr (slot_ne (Or.inr (w16 hw)) (Or.inl (w136 hw)) (by decide) (t := (.array .int)) (t' := .int) (by decide) (by decide)))), (Fld.other W831 (fo W825 F_c1_draws) (Or.inr (slot_ne (Or.inr (w18 hw)) (Or.inl (w136 hw)) (by decide) (t := (.array .int)) (t' := .int) (by decide) (by decide)))), (Fld.other W831 (fo W825 (fo W809 F_c1_losses)) (Or.inr (slot_ne (Or.inr (w20 hw)) (Or.inl (w136 hw)) (by decide) (t := (.array .int)) (t' := .int) (by decide) (by decide)))), (Fld.same W831 F_c1_matches), (Fld.other W831 (fo W825 (fo W809 F_c1_drawnMatches)) (Or.inr (slot_ne (Or.inl (w143 hw)) (Or.inl (w136 hw)) (by decide) (t := .int) (t' := .int) (by decide) (by decide)))), (vo (vo (vo V_c2 W809) W825) W831), (vo V825 W831), (vo (vo V809 W825) W831), (xw W831 (xw W825 (xw W809 E_c5))), (fo W831 (fo W825 (fo W809 F_c5_wins))), (fo W831 (fo W825 (fo W809 F_c5_draws))), (fo W831 (fo W825 (fo W809 F_c5_losses))), (fo W831 (fo W825 (fo W809 F_c5_matches))), (fo W831 (fo W825 (fo W809 F_c5_drawnMatches))), (vo (vo (vo V_c6 W809) W825) W831), (vo (vo (vo V_c7 W809) W825) W831), (vo (vo (vo V_c8 W809) W825) W831), (xw W831 E_c9), (fo W831 (fo W825 (fo W809 F_c9_modCount))), (fo W831 (fo W825 F_c9_elementData)), (fo W831 F_c9_s), (xw W831 (xw W825 (xw W809 E_s_LOSS))), (xw W831 (xw W825 (xw W809 E_c10))), (vo (vo V_c10 W825) W831), O_c10, (xw W831 (xw W825 E_s_DRAW)), (xw W831 (xw W825 (xw W809 E_c11))), (fo W831 (fo W825 (fo W809 F_c11_modCount))), (fo W831 (fo W825 (fo W809 F_c11_elementData))), (fo W831 (fo W825 (fo W809 F_c11_s))), (xw W831 (xw W825 (xw W809 E_e2_))), (xw W831 (xw W825 (xw W809 E_c12))), (vo (vo (vo V_c12 W809) W825) W831), O_c12, (xw W831 (xw W825 (xw W809 E_e3_))), g_c1, lt_c1_c2, lt_c2_c3, lt_c3_c4, lt_c4_c5, lt_c5_c6, lt_c6_c7, lt_c7_c8, lt_c8_c9, lt_c9_c10, lt_c10_c11, lt_c11_c12, od_s_WIN, od_s_LOSS, od_s_DRAW, od_s_SW, od_s_EM, od_s_LOSS, od_s_DRAW, od_e2_, od_e3_, hv0, hv1, hv2, hv3, (Or.inr (Or.inl ⟨rfl, rfl⟩)), (Or.inr (Or.inr ⟨rfl, rfl⟩)), he2, he3⟩) (by decide) (by decide)
  · refine aN X0 hx (hb Y d12_0) rfl rfl <| f_face X0 hx hZ hO (by rw [hml]; rfl) (xi := yl13) (y := y13) (w91 hw) (w92 hw) (mvT hZ (w93 hw)) (w94 hw) (w95 hw) (w96 hw) (w97 hw) (w98 hw) (w23 hw) (w99 hw) e0 E_c9 (argsL := []) (rest := []) (q580 l Z a0 hw [] h0 n0 c9 F_c9_s) (lenOf pd9 rfl) (hb Y d12_1) fun T832 L832 v832 X832 hQ832 => ?_
    obtain ⟨rfl, N832q, e832⟩ := hQ832
    have N832 := Fr.app N0 N832q
    refine aN X832 hx (hb Y d12_6) rfl rfl <| gF X832 hx hZ hO (w15 hw) Via.refl e832 F_c1_wins (hb Y d12_7) fun T834 X834 e834 => ?_
    refine f_len X834 hx hZ e834 V_c2 (hb Y d12_10) <| cY X834 hx (pc := 11) 38 (hb Y d12_11) <| iK X834 hx (z := 0) (hb Y d12_38) <| sN X834 hx (L' := #[(rv c1), (rv c9), (iv 0), .unset]) (hb Y d12_39) rfl <| iK X834 hx (z := 0) (hb Y d12_40) <| sN X834 hx (L' := #[(rv c1), (rv c9), (iv 0), (iv 0)]) (hb Y d12_41) rfl <| iN X834 hx (hb Y d12_42) rfl <| aN X834 hx (hb Y d12_43) rfl rfl <| f_face X834 hx hZ hO (by rw [hml]; rfl) (xi := yl13) (y := y13) (w91 hw) (w92 hw) (mvT hZ (w93 hw)) (w94 hw) (w95 hw) (w96 hw) (w97 hw) (w98 hw) (w23 hw) (w99 hw) e834 E_c9 (argsL := []) (rest := [(.int 0)]) (q580 l Z a0 hw [] h0 n0 c9 F_c9_s) (lenOf pd9 rfl) (hb Y d12_44) fun T835 L835 v835 X835 hQ835 => ?_
    obtain ⟨rfl, N835q, e835⟩ := hQ835
    have N835 := Fr.app N832 N835q
    refine cN X835 hx (hb Y d12_49) <| f_getS X835 hx hZ hO (w100 hw) e835 S__SwitchMap_com_example_g (hb Y d12_52) fun T837 X837 e837 => ?_
    refine aN X837 hx (hb Y d12_55) rfl rfl <| iN X837 hx (hb Y d12_56) rfl <| f_face X837 hx hZ hO (by rw [hml]; rfl) (xi := yl18) (y := y14) (w103 hw) (w104 hw) (mvT hZ (w105 hw)) (w106 hw) (w107 hw) (w108 hw) (w109 hw) (w98 hw) (w23 hw) (w110 hw) e837 E_c9 (argsL := [(.int 0)]) (rest := [(.ref s_SW)]) (q845 l Z a0 hw [] h0 n0 c9 c10 kc7 s_DRAW s_WIN F_c9_s F_c9_elementData V_c10 E_c9) (lenOf pd11 rfl) (hb Y d12_57) fun T838 L838 v838 X838 hQ838 => ?_
    obtain ⟨rfl, N838q, e838⟩ := hQ838
    have N838 := Fr.app N835 N838q
    refine f_cast1 X838 hx hZ hO (w124 hw) e838 (Ins.self E_s_DRAW) (hb Y d12_62) fun T846 X846 e846 => ?_
    refine f_up X846 hx hZ hO (by rw [hml]; rfl) (xi := yl20) (y := y18) (owner := "java/lang/Enum") (w126 hw) (w127 hw) (w128 hw) (w130 hw) (w129 hw) (w131 hw) (w132 hw) e846 E_s_DRAW (argsL := []) (rest := [(.ref s_SW)]) (q700 l Z a0 hw [] h0 n0 s_DRAW F_s_DRAW_ordinal) (lenOf pd9 rfl) (hb Y d12_65) fun T847 L847 v847 X847 hQ847 => ?_
    obtain ⟨rfl, N847q, e847⟩ := hQ847
    have N847 := Fr.app N838 N847q
    refine f_iald X847 hx hZ e847 V_s_SW (v := (.int 2)) rfl (hb Y d12_68) <| f_tsw X847 hx (o := 40) (pc := 69) 109 (hb Y d12_69) (by decide +kernel) (by decide +kernel) <| aN X847 hx (hb Y d12_109) rfl rfl <| gF X847 hx hZ hO (w17 hw) Via.refl e847 F_c1_draws (hb Y d12_110) fun T849 X849 e849 => ?_
    refine iN X849 hx (hb Y d12_113) rfl <| f_dup2 X849 hx (hb Y d12_114) rfl rfl <| f_iald X849 hx hZ e849 V_c3 (v := (.int n5_)) rfl (hb Y d12_115) <| iK X849 hx (z := 1) (hb Y d12_116) <| iA X849 hx (z := (n5_ + (1 : Int32))) (hb Y d12_117) (q := rfl) <| f_ist X849 hx hZ e849 V_c3 0 (hb Y d12_118) fun T850 h850 X850 e850 W850 V850 => ?_
    have N850x := Fr.snoc X850 N847 (by omega : n0 ≤ c3)
    refine f_iinc X850 hx (L' := #[(rv c1), (rv c9), (iv 1), (iv 0)]) (hb Y d12_119) rfl rfl <| gT X850 hx (pc := 122) 135 (hb Y d12_122) <| f_iinc X850 hx (L' := #[(rv c1), (rv c9), (iv 1), (iv 1)]) (hb Y d12_135) rfl rfl <| gT X850 hx (pc := 138) 42 (hb Y d12_138) <| iN X850 hx (hb Y d12_42) rfl <| aN X850 hx (hb Y d12_43) rfl rfl ?_
    replace F_c9_s := (fo W850 F_c9_s)
    replace E_c9 := (xw W850 E_c9)
    refine f_face X850 hx hZ hO (by rw [hml]; rfl) (xi := yl13) (y := y13) (w91 hw) (w92 hw) (mvT hZ (w93 hw)) (w94 hw) (w95 hw) (w96 hw) (w97 hw) (w98 hw) (w23 hw) (w99 hw) e850 E_c9 (argsL := []) (rest := [(.int 1)]) (q580 l Z a0 hw [] h850 n0 c9 F_c9_s) (lenOf pd9 rfl) (hb Y d12_44) fun T851 L851 v851 X851 hQ851 => ?_
    obtain ⟨rfl, N851q, e851⟩ := hQ851
    have N851 := Fr.app N850x N851q
    refine cN X851 hx (hb Y d12_49) ?_
    replace S__SwitchMap_com_example_g := (Sta.wr W850 S__SwitchMap_com_example_g)
    refine f_getS X851 hx hZ hO (w100 hw) e851 S__SwitchMap_com_example_g (hb Y d12_52) fun T853 X853 e853 => ?_
    refine aN X853 hx (hb Y d12_55) rfl rfl <| iN X853 hx (hb Y d12_56) rfl ?_
    replace F_c9_elementData := (fo W850 F_c9_elementData)
    replace V_c10 := (vo V_c10 W850)
    refine f_face X853 hx hZ hO (by rw [hml]; rfl) (xi := yl18) (y := y14) (w103 hw) (w104 hw) (mvT hZ (w105 hw)) (w106 hw) (w107 hw) (w108 hw) (w109 hw) (w98 hw) (w23 hw) (w110 hw) e853 E_c9 (argsL := [(.int 1)]) (rest := [(.ref s_SW)]) (q861 l Z a0 hw [] h850 n0 c9 c10 kc7 s_DRAW s_WIN F_c9_s F_c9_elementData V_c10 E_c9) (lenOf pd11 rfl) (hb Y d12_57) fun T854 L854 v854 X854 hQ854 => ?_
    obtain ⟨rfl, N854q, e854⟩ := hQ854
    have N854 := Fr.app N851 N854q
    replace E_s_WIN := (xw W850 E_s_WIN)
    refine f_cast1 X854 hx hZ hO (w124 hw) e854 (Ins.self E_s_WIN) (hb Y d12_62) fun T862 X862 e862 => ?_
    replace F_s_WIN_ordinal := (fo W850 F_s_WIN_ordinal)
    refine f_up X862 hx hZ hO (by rw [hml]; rfl) (xi := yl20) (y := y18) (owner := "java/lang/Enum") (w126 hw) (w127 hw) (w128 hw) (w130 hw) (w129 hw) (w131 hw) (w132 hw) e862 E_s_WIN (argsL := []) (rest := [(.ref s_SW)]) (q598 l Z a0 hw [] h850 n0 s_WIN F_s_WIN_ordinal) (lenOf pd9 rfl) (hb Y d12_65) fun T863 L863 v863 X863 hQ863 => ?_
    obtain ⟨rfl, N863q, e863⟩ := hQ863
    have N863 := Fr.app N854 N863q
    replace V_s_SW := (vo V_s_SW W850)
    refine f_iald X863 hx hZ e863 V_s_SW (v := (.int 1)) rfl (hb Y d12_68) <| f_tsw X863 hx (o := 27) (pc := 69) 96 (hb Y d12_69) (by decide +kernel) (by decide +kernel) <| aN X863 hx (hb Y d12_96) rfl rfl ?_
    replace F_c1_wins := (fo W850 F_c1_wins)
    refine gF X863 hx hZ hO (w15 hw) Via.refl e863 F_c1_wins (hb Y d12_97) fun T865 X865 e865 => ?_
    refine iN X865 hx (hb Y d12_100) rfl <| f_dup2 X865 hx (hb Y d12_101) rfl rfl ?_
    replace V_c2 := (vo V_c2 W850)
    refine f_iald X865 hx hZ e865 V_c2 (v := (.int n4_)) rfl (hb Y d12_102) <| iK X865 hx (z := 1) (hb Y d12_103) <| iA X865 hx (z := (n4_ + (1 : Int32))) (hb Y d12_104) (q := rfl) <| f_ist X865 hx hZ e865 V_c2 1 (hb Y d12_105) fun T866 h866 X866 e866 W866 V866 => ?_
    have N866x := Fr.snoc X866 N863 (by omega : n0 ≤ c2)
    refine gT X866 hx (pc := 106) 135 (hb Y d12_106) <| f_iinc X866 hx (L' := #[(rv c1), (rv c9), (iv 1), (iv 2)]) (hb Y d12_135) rfl rfl <| gT X866 hx (pc := 138) 42 (hb Y d12_138) <| iN X866 hx (hb Y d12_42) rfl <| aN X866 hx (hb Y d12_43) rfl rfl ?_
    replace F_c9_s := (fo W866 F_c9_s)
    replace E_c9 := (xw W866 E_c9)
    refine f_face X866 hx hZ hO (by rw [hml]; rfl) (xi := yl13) (y := y13) (w91 hw) (w92 hw) (mvT hZ (w93 hw)) (w94 hw) (w95 hw) (w96 hw) (w97 hw) (w98 hw) (w23 hw) (w99 hw) e866 E_c9 (argsL := []) (rest := [(.int 2)]) (q580 l Z a0 hw [] h866 n0 c9 F_c9_s) (lenOf pd9 rfl) (hb Y d12_44) fun T867 L867 v867 X867 hQ867 => ?_
    obtain ⟨rfl, N867q, e867⟩ := hQ867
    have N867 := Fr.app N866x N867q
    refine cY X867 hx (pc := 49) 141 (hb Y d12_49) <| iN X867 hx (hb Y d12_141) rfl <| aN X867 hx (hb Y d12_142) rfl rfl <| f_face X867 hx hZ hO (by rw [hml]; rfl) (xi := yl13) (y := y13) (w91 hw) (w92 hw) (mvT hZ (w93 hw)) (w94 hw) (w95 hw) (w96 hw) (w97 hw) (w98 hw) (w23 hw) (w99 hw) e867 E_c9 (argsL := []) (rest := [(.int 1)]) (q580 l Z a0 hw [] h866 n0 c9 F_c9_s) (lenOf pd9 rfl) (hb Y d12_143) fun T869 L869 v869 X869 hQ869 => ?_
    obtain ⟨rfl, N869q, e869⟩ := hQ869
    have N869 := Fr.app N867 N869q
    refine cY X869 hx (pc := 148) 161 (hb Y d12_148) <| aN X869 hx (hb Y d12_161) rfl rfl <| f_dup X869 hx (hb Y d12_162) rfl ?_
    replace F_c1_matches := (fo W866 (fo W850 F_c1_matches))
    refine gF X869 hx hZ hO (w135 hw) Via.refl e869 F_c1_matches (hb Y d12_163) fun T871 X871 e871 => ?_
    refine iK X871 hx (z := 1) (hb Y d12_166) <| iA X871 hx (z := (n1_ + (1 : Int32))) (hb Y d12_167) (q := rfl) ?_
    replace E_c1 := (xw W866 (xw W850 E_c1))
    refine f_putF X871 hx hZ hO (w135 hw) Via.refl e871 F_c1_matches E_c1 (Or.inl (w136 hw)) (w6 hw) (ty := .int) (by decide) rfl rfl (hb Y d12_168) fun T872 h872 X872 e872 W872 => ?_
    have N872x := Fr.snoc X872 N869 (by omega : n0 ≤ c1)
    exact f_ret0 X872 hx hlk hret (hb Y d12_171) (QQ := _) (by rw [e872]; exact ⟨rfl, N872x, (Sta.wr W872 (Sta.wr W866 (Sta.wr W850 S_WIN))), (Sta.wr W872 (Sta.wr W866 (Sta.wr W850 S_LOSS))), (Sta.wr W872 (Sta.wr W866 (Sta.wr W850 S_DRAW))), (Sta.wr W872 (Sta.wr W866 S__SwitchMap_com_example_g)), (Sta.wr W872 (Sta.wr W866 (Sta.wr W850 S_DEFAULTCAPACITY_EMPTY_EL))), (xw W872 (xw W866 E_s_WIN)), (fo W872 (fo W866 F_s_WIN_ordinal)), (xw W872 (xw W866 (xw W850 E_s_LOSS))), (fo W872 (fo W866 (fo W850 F_s_LOSS_ordinal))), (xw W872 (xw W866 (xw W850 E_s_DRAW))), (fo W872 (fo W866 (fo W850 F_s_DRAW_ordinal))), (vo (vo V_s_SW W866) W872), (vo (vo (vo V_s_EM W850) W866) W872), (xw W872 E_c1), (Fld.other W872 (fo W866 F_c1_wins) (Or.inr (slot_ne (Or.inr (w16 hw)) (Or.inl (w136 hw)) (by decide) (t := (.array .int)) (t' := .int) (by decide) (by decide)))), (Fld.other W872 (fo W866 (fo W850 F_c1_draws)) (Or.inr (slot_ne (Or.inr (w18 hw)) (Or.inl (w136 hw)) (by decide) (t := (.array .int)) (t' := .int) (by decide) (by decide)))), (Fld.other W872 (fo W866 (fo W850 F_c1_losses)) (Or.inr (slot_ne (Or.inr (w20 hw)) (Or.inl (w136 hw)) (by decide) (t := (.array .int)) (t' := .int) (by decide) (by decide)))), (Fld.same W872 F_c1_matches), (Fld.other W872 (fo W866 (fo W850 F_c1_drawnMatches)) (Or.inr (slot_ne (Or.inl (w143 hw)) (Or.inl (w136 hw)) (by decide) (t := .int) (t' := .int) (by decide) (by decide)))), (vo V866 W872), (vo (vo V850 W866) W872), (vo (vo (vo V_c4 W850) W866) W872), (xw W872 (xw W866 (xw W850 E_c5))), (fo W872 (fo W866 (fo W850 F_c5_wins))), (fo W872 (fo W866 (fo W850 F_c5_draws))), (fo W872 (fo W866 (fo W850 F_c5_losses))), (fo W872 (fo W866 (fo W850 F_c5_matches))), (fo W872 (fo W866 (fo W850 F_c5_drawnMatches))), (vo (vo (vo V_c6 W850) W866) W872), (vo (vo (vo V_c7 W850) W866) W872), (vo (vo (vo V_c8 W850) W866) W872), (xw W872 E_c9), (fo W872 (fo W866 (fo W850 F_c9_modCount))), (fo W872 (fo W866 F_c9_elementData)), (fo W872 F_c9_s), (xw W872 (xw W866 (xw W850 E_s_DRAW))), (xw W872 (xw W866 (xw W850 E_c10))), (vo (vo V_c10 W866) W872), O_c10, (xw W872 (xw W866 E_s_WIN)), (xw W872 (xw W866 (xw W850 E_c11))), (fo W872 (fo W866 (fo W850 F_c11_modCount))), (fo W872 (fo W866 (fo W850 F_c11_elementData))), (fo W872 (fo W866 (fo W850 F_c11_s))), (xw W872 (xw W866 (xw W850 E_e2_))), (xw W872 (xw W866 (xw W850 E_c12))), (vo (vo (vo V_c12 W850) W866) W872), O_c12, (xw W872 (xw W866 (xw W850 E_e3_))), g_c1, lt_c1_c2, lt_c2_c3, lt_c3_c4, lt_c4_c5, lt_c5_c6, lt_c6_c7, lt_c7_c8, lt_c8_c9, lt_c9_c10, lt_c10_c11, lt_c11_c12, od_s_WIN, od_s_LOSS, od_s_DRAW, od_s_SW, od_s_EM, od_s_DRAW, od_s_WIN, od_e2_, od_e3_, hv0, hv1, hv2, hv3, (Or.inr (Or.inr ⟨rfl, rfl⟩)), (Or.inl ⟨rfl, rfl⟩), he2, he3⟩) (by decide) (by decide)
  · refine aN X0 hx (hb Y d12_0) rfl rfl <| f_face X0 hx hZ hO (by rw [hml]; rfl) (xi := yl13) (y := y13) (w91 hw) (w92 hw) (mvT hZ (w93 hw)) (w94 hw) (w95 hw) (w96 hw) (w97 hw) (w98 hw) (w23 hw) (w99 hw) e0 E_c9 (argsL := []) (rest := []) (q580 l Z a0 hw [] h0 n0 c9 F_c9_s) (lenOf pd9 rfl) (hb Y d12_1) fun T873 L873 v873 X873 hQ873 => ?_
    obtain ⟨rfl, N873q, e873⟩ := hQ873
    have N873 := Fr.app N0 N873q
    refine aN X873 hx (hb Y d12_6) rfl rfl <| gF X873 hx hZ hO (w15 hw) Via.refl e873 F_c1_wins (hb Y d12_7) fun T875 X875 e875 => ?_
    refine f_len X875 hx hZ e875 V_c2 (hb Y d12_10) <| cY X875 hx (pc := 11) 38 (hb Y d12_11) <| iK X875 hx (z := 0) (hb Y d12_38) <| sN X875 hx (L' := #[(rv c1), (rv c9), (iv 0), .unset]) (hb Y d12_39) rfl <| iK X875 hx (z := 0) (hb Y d12_40) <| sN X875 hx (L' := #[(rv c1), (rv c9), (iv 0), (iv 0)]) (hb Y d12_41) rfl <| iN X875 hx (hb Y d12_42) rfl <| aN X875 hx (hb Y d12_43) rfl rfl <| f_face X875 hx hZ hO (by rw [hml]; rfl) (xi := yl13) (y := y13) (w91 hw) (w92 hw) (mvT hZ (w93 hw)) (w94 hw) (w95 hw) (w96 hw) (w97 hw) (w98 hw) (w23 hw) (w99 hw) e875 E_c9 (argsL := []) (rest := [(.int 0)]) (q580 l Z a0 hw [] h0 n0 c9 F_c9_s) (lenOf pd9 rfl) (hb Y d12_44) fun T876 L876 v876 X876 hQ876 => ?_
    obtain ⟨rfl, N876q, e876⟩ := hQ876
    have N876 := Fr.app N873 N876q
    refine cN X876 hx (hb Y d12_49) <| f_getS X876 hx hZ hO (w100 hw) e876 S__SwitchMap_com_example_g (hb Y d12_52) fun T878 X878 e878 => ?_
    refine aN X878 hx (hb Y d12_55) rfl rfl <| iN X878 hx (hb Y d12_56) rfl <| f_face X878 hx hZ hO (by rw [hml]; rfl) (xi := yl18) (y := y14) (w103 hw) (w104 hw) (mvT hZ (w105 hw)) (w106 hw) (w107 hw) (w108 hw) (w109 hw) (w98 hw) (w23 hw) (w110 hw) e878 E_c9 (argsL := [(.int 0)]) (rest := [(.ref s_SW)]) (q886 l Z a0 hw [] h0 n0 c9 c10 kc7 s_DRAW s_LOSS F_c9_s F_c9_elementData V_c10 E_c9) (lenOf pd11 rfl) (hb Y d12_57) fun T879 L879 v879 X879 hQ879 => ?_
    obtain ⟨rfl, N879q, e879⟩ := hQ879
    have N879 := Fr.app N876 N879q
    refine f_cast1 X879 hx hZ hO (w124 hw) e879 (Ins.self E_s_DRAW) (hb Y d12_62) fun T887 X887 e887 => ?_
    refine f_up X887 hx hZ hO (by rw [hml]; rfl) (xi := yl20) (y := y18) (owner := "java/lang/Enum") (w126 hw) (w127 hw) (w128 hw) (w130 hw) (w129 hw) (w131 hw) (w132 hw) e887 E_s_DRAW (argsL := []) (rest := [(.ref s_SW)]) (q700 l Z a0 hw [] h0 n0 s_DRAW F_s_DRAW_ordinal) (lenOf pd9 rfl) (hb Y d12_65) fun T888 L888 v888 X888 hQ888 => ?_
    obtain ⟨rfl, N888q, e888⟩ := hQ888
    have N888 := Fr.app N879 N888q
    refine f_iald X888 hx hZ e888 V_s_SW (v := (.int 2)) rfl (hb Y d12_68) <| f_tsw X888 hx (o := 40) (pc := 69) 109 (hb Y d12_69) (by decide +kernel) (by decide +kernel) <| aN X888 hx (hb Y d12_109) rfl rfl <| gF X888 hx hZ hO (w17 hw) Via.refl e888 F_c1_draws (hb Y d12_110) fun T890 X890 e890 => ?_
    refine iN X890 hx (hb Y d12_113) rfl <| f_dup2 X890 hx (hb Y d12_114) rfl rfl <| f_iald X890 hx hZ e890 V_c3 (v := (.int n5_)) rfl (hb Y d12_115) <| iK X890 hx (z := 1) (hb Y d12_116) <| iA X890 hx (z := (n5_ + (1 : Int32))) (hb Y d12_117) (q := rfl) <| f_ist X890 hx hZ e890 V_c3 0 (hb Y d12_118) fun T891 h891 X891 e891 W891 V891 => ?_
    have N891x := Fr.snoc X891 N888 (by omega : n0 ≤ c3)
    refine f_iinc X891 hx (L' := #[(rv c1), (rv c9), (iv 1), (iv 0)]) (hb Y d12_119) rfl rfl <| gT X891 hx (pc := 122) 135 (hb Y d12_122) <| f_iinc X891 hx (L' := #[(rv c1), (rv c9), (iv 1), (iv 1)]) (hb Y d12_135) rfl rfl <| gT X891 hx (pc := 138) 42 (hb Y d12_138) <| iN X891 hx (hb Y d12_42) rfl <| aN X891 hx (hb Y d12_43) rfl rfl ?_
    replace F_c9_s := (fo W891 F_c9_s)
    replace E_c9 := (xw W891 E_c9)
    refine f_face X891 hx hZ hO (by rw [hml]; rfl) (xi := yl13) (y := y13) (w91 hw) (w92 hw) (mvT hZ (w93 hw)) (w94 hw) (w95 hw) (w96 hw) (w97 hw) (w98 hw) (w23 hw) (w99 hw) e891 E_c9 (argsL := []) (rest := [(.int 1)]) (q580 l Z a0 hw [] h891 n0 c9 F_c9_s) (lenOf pd9 rfl) (hb Y d12_44) fun T892 L892 v892 X892 hQ892 => ?_
    obtain ⟨rfl, N892q, e892⟩ := hQ892
    have N892 := Fr.app N891x N892q
    refine cN X892 hx (hb Y d12_49) ?_
    replace S__SwitchMap_com_example_g := (Sta.wr W891 S__SwitchMap_com_example_g)
    refine f_getS X892 hx hZ hO (w100 hw) e892 S__SwitchMap_com_example_g (hb Y d12_52) fun T894 X894 e894 => ?_
    refine aN X894 hx (hb Y d12_55) rfl rfl <| iN X894 hx (hb Y d12_56) rfl ?_
    replace F_c9_elementData := (fo W891 F_c9_elementData)
    replace V_c10 := (vo V_c10 W891)
    refine f_face X894 hx hZ hO (by rw [hml]; rfl) (xi := yl18) (y := y14) (w103 hw) (w104 hw) (mvT hZ (w105 hw)) (w106 hw) (w107 hw) (w108 hw) (w109 hw) (w98 hw) (w23 hw) (w110 hw) e894 E_c9 (argsL := [(.int 1)]) (rest := [(.ref s_SW)]) (q902 l Z a0 hw [] h891 n0 c9 c10 kc7 s_DRAW s_LOSS F_c9_s F_c9_elementData V_c10 E_c9) (lenOf pd11 rfl) (hb Y d12_57) fun T895 L895 v895 X895 hQ895 => ?_
    obtain ⟨rfl, N895q, e895⟩ := hQ895
    have N895 := Fr.app N892 N895q
    replace E_s_LOSS := (xw W891 E_s_LOSS)
    refine f_cast1 X895 hx hZ hO (w124 hw) e895 (Ins.self E_s_LOSS) (hb Y d12_62) fun T903 X903 e903 => ?_
    replace F_s_LOSS_ordinal := (fo W891 F_s_LOSS_ordinal)
    refine f_up X903 hx hZ hO (by rw [hml]; rfl) (xi := yl20) (y := y18) (owner := "java/lang/Enum") (w126 hw) (w127 hw) (w128 hw) (w130 hw) (w129 hw) (w131 hw) (w132 hw) e903 E_s_LOSS (argsL := []) (rest := [(.ref s_SW)]) (q658 l Z a0 hw [] h891 n0 s_LOSS F_s_LOSS_ordinal) (lenOf pd9 rfl) (hb Y d12_65) fun T904 L904 v904 X904 hQ904 => ?_
    obtain ⟨rfl, N904q, e904⟩ := hQ904
    have N904 := Fr.app N895 N904q
    replace V_s_SW := (vo V_s_SW W891)
    refine f_iald X904 hx hZ e904 V_s_SW (v := (.int 3)) rfl (hb Y d12_68) <| f_tsw X904 hx (o := 56) (pc := 69) 125 (hb Y d12_69) (by decide +kernel) (by decide +kernel) <| aN X904 hx (hb Y d12_125) rfl rfl ?_
    replace F_c1_losses := (fo W891 F_c1_losses)
    refine gF X904 hx hZ hO (w19 hw) Via.refl e904 F_c1_losses (hb Y d12_126) fun T906 X906 e906 => ?_
    refine iN X906 hx (hb Y d12_129) rfl <| f_dup2 X906 hx (hb Y d12_130) rfl rfl ?_
    replace V_c4 := (vo V_c4 W891)
    refine f_iald X906 hx hZ e906 V_c4 (v := (.int n8_)) rfl (hb Y d12_131) <| iK X906 hx (z := 1) (hb Y d12_132) <| iA X906 hx (z := (n8_ + (1 : Int32))) (hb Y d12_133) (q := rfl) <| f_ist X906 hx hZ e906 V_c4 1 (hb Y d12_134) fun T907 h907 X907 e907 W907 V907 => ?_
    have N907x := Fr.snoc X907 N904 (by omega : n0 ≤ c4)
    refine f_iinc X907 hx (L' := #[(rv c1), (rv c9), (iv 1), (iv 2)]) (hb Y d12_135) rfl rfl <| gT X907 hx (pc := 138) 42 (hb Y d12_138) <| iN X907 hx (hb Y d12_42) rfl <| aN X907 hx (hb Y d12_43) rfl rfl ?_
    replace F_c9_s := (fo W907 F_c9_s)
    replace E_c9 := (xw W907 E_c9)
    refine f_face X907 hx hZ hO (by rw [hml]; rfl) (xi := yl13) (y := y13) (w91 hw) (w92 hw) (mvT hZ (w93 hw)) (w94 hw) (w95 hw) (w96 hw) (w97 hw) (w98 hw) (w23 hw) (w99 hw) e907 E_c9 (argsL := []) (rest := [(.int 2)]) (q580 l Z a0 hw [] h907 n0 c9 F_c9_s) (lenOf pd9 rfl) (hb Y d12_44) fun T908 L908 v908 X908 hQ908 => ?_
    obtain ⟨rfl, N908q, e908⟩ := hQ908
    have N908 := Fr.app N907x N908q
    refine cY X908 hx (pc := 49) 141 (hb Y d12_49) <| iN X908 hx (hb Y d12_141) rfl <| aN X908 hx (hb Y d12_142) rfl rfl <| f_face X908 hx hZ hO (by rw [hml]; rfl) (xi := yl13) (y := y13) (w91 hw) (w92 hw) (mvT hZ (w93 hw)) (w94 hw) (w95 hw) (w96 hw) (w97 hw) (w98 hw) (w23 hw) (w99 hw) e908 E_c9 (argsL := []) (rest := [(.int 1)]) (q580 l Z a0 hw [] h907 n0 c9 F_c9_s) (lenOf pd9 rfl) (hb Y d12_143) fun T910 L910 v910 X910 hQ910 => ?_
    obtain ⟨rfl, N910q, e910⟩ := hQ910
    have N910 := Fr.app N908 N910q
    refine cY X910 hx (pc := 148) 161 (hb Y d12_148) <| aN X910 hx (hb Y d12_161) rfl rfl <| f_dup X910 hx (hb Y d12_162) rfl ?_
    replace F_c1_matches := (fo W907 (fo W891 F_c1_matches))
    refine gF X910 hx hZ hO (w135 hw) Via.refl e910 F_c1_matches (hb Y d12_163) fun T912 X912 e912 => ?_
    refine iK X912 hx (z := 1) (hb Y d12_166) <| iA X912 hx (z := (n1_ + (1 : Int32))) (hb Y d12_167) (q := rfl) ?_
    replace E_c1 := (xw W907 (xw W891 E_c1))
    refine f_putF X912 hx hZ hO (w135 hw) Via.refl e912 F_c1_matches E_c1 (Or.inl (w136 hw)) (w6 hw) (ty := .int) (by decide) rfl rfl (hb Y d12_168) fun T913 h913 X913 e913 W913 => ?_
    have N913x := Fr.snoc X913 N910 (by omega : n0 ≤ c1)
    exact f_ret0 X913 hx hlk hret (hb Y d12_171) (QQ := _) (by rw [e913]; exact ⟨rfl, N913x, (Sta.wr W913 (Sta.wr W907 (Sta.wr W891 S_WIN))), (Sta.wr W913 (Sta.wr W907 (Sta.wr W891 S_LOSS))), (Sta.wr W913 (Sta.wr W907 (Sta.wr W891 S_DRAW))), (Sta.wr W913 (Sta.wr W907 S__SwitchMap_com_example_g)), (Sta.wr W913 (Sta.wr W907 (Sta.wr W891 S_DEFAULTCAPACITY_EMPTY_EL))), (xw W913 (xw W907 (xw W891 E_s_WIN))), (fo W913 (fo W907 (fo W891 F_s_WIN_ordinal))), (xw W913 (xw W907 E_s_LOSS)), (fo W913 (fo W907 F_s_LOSS_ordinal)), (xw W913 (xw W907 (xw W891 E_s_DRAW))), (fo W913 (fo W907 (fo W891 F_s_DRAW_ordinal))), (vo (vo V_s_SW W907) W913), (vo (vo (vo V_s_EM W891) W907) W913), (xw W913 E_c1), (Fld.other W913 (fo W907 (fo W891 F_c1_wins)) (Or.inr (slot_ne (Or.inr (w16 hw)) (Or.inl (w136 hw)) (by decide) (t := (.array .int)) (t' := .int) (by decide) (by decide)))), (Fld.other W913 (fo W907 (fo W891 F_c1_draws)) (Or.inr (slot_ne (Or.inr (w18 hw)) (Or.inl (w136 hw)) (by decide) (t := (.array .int)) (t' := .int) (by decide) (by decide)))), (Fld.other W913 (fo W907 F_c1_losses) (Or.inr (slot_ne (Or.inr (w20 hw)) (Or.inl (w136 hw)) (by decide) (t := (.array .int)) (t' := .int) (by decide) (by decide)))), (Fld.same W913 F_c1_matches), (Fld.other W913 (fo W907 (fo W891 F_c1_drawnMatches)) (Or.inr (slot_ne (Or.inl (w143 hw)) (Or.inl (w136 hw)) (by decide) (t := .int) (t' := .int) (by decide) (by decide)))), (vo (vo (vo V_c2 W891) W907) W913), (vo (vo V891 W907) W913), (vo V907 W913), (xw W913 (xw W907 (xw W891 E_c5))), (fo W913 (fo W907 (fo W891 F_c5_wins))), (fo W913 (fo W907 (fo W891 F_c5_draws))), (fo W913 (fo W907 (fo W891 F_c5_losses))), (fo W913 (fo W907 (fo W891 F_c5_matches))), (fo W913 (fo W907 (fo W891 F_c5_drawnMatches))), (vo (vo (vo V_c6 W891) W907) W913), (vo (vo (vo V_c7 W891) W907) W913), (vo (vo (vo V_c8 W891) W907) W913), (xw W913 E_c9), (fo W913 (fo W907 (fo W891 F_c9_modCount))), (fo W913 (fo W907 F_c9_elementData)), (fo W913 F_c9_s), (xw W913 (xw W907 (xw W891 E_s_DRAW))), (xw W913 (xw W907 (xw W891 E_c10))), (vo (vo V_c10 W907) W913), O_c10, (xw W913 (xw W907 E_s_LOSS)), (xw W913 (xw W907 (xw W891 E_c11))), (fo W913 (fo W907 (fo W891 F_c11_modCount))), (fo W913 (fo W907 (fo W891 F_c11_elementData))), (fo W913 (fo W907 (fo W891 F_c11_s))), (xw W913 (xw W907 (xw W891 E_e2_))), (xw W913 (xw W907 (xw W891 E_c12))), (vo (vo (vo V_c12 W891) W907) W913), O_c12, (xw W913 (xw W907 (xw W891 E_e3_))), g_c1, lt_c1_c2, lt_c2_c3, lt_c3_c4, lt_c4_c5, lt_c5_c6, lt_c6_c7, lt_c7_c8, lt_c8_c9, lt_c9_c10, lt_c10_c11, lt_c11_c12, od_s_WIN, od_s_LOSS, od_s_DRAW, od_s_SW, od_s_EM, od_s_DRAW, od_s_LOSS, od_e2_, od_e3_, hv0, hv1, hv2, hv3, (Or.inr (Or.inr ⟨rfl, rfl⟩)), (Or.inr (Or.inl ⟨rfl, rfl⟩)), he2, he3⟩) (by decide) (by decide)
  · refine aN X0 hx (hb Y d12_0) rfl rfl <| f_face X0 hx hZ hO (by rw [hml]; rfl) (xi := yl13) (y := y13) (w91 hw) (w92 hw) (mvT hZ (w93 hw)) (w94 hw) (w95 hw) (w96 hw) (w97 hw) (w98 hw) (w23 hw) (w99 hw) e0 E_c9 (argsL := []) (rest := []) (q580 l Z a0 hw [] h0 n0 c9 F_c9_s) (lenOf pd9 rfl) (hb Y d12_1) fun T914 L914 v914 X914 hQ914 => ?_
    obtain ⟨rfl, N914q, e914⟩ := hQ914
    have N914 := Fr.app N0 N914q
    refine aN X914 hx (hb Y d12_6) rfl rfl <| gF X914 hx hZ hO (w15 hw) Via.refl e914 F_c1_wins (hb Y d12_7) fun T916 X916 e916 => ?_
    refine f_len X916 hx hZ e916 V_c2 (hb Y d12_10) <| cY X916 hx (pc := 11) 38 (hb Y d12_11) <| iK X916 hx (z := 0) (hb Y d12_38) <| sN X916 hx (L' := #[(rv c1), (rv c9), (iv 0), .unset]) (hb Y d12_39) rfl <| iK X916 hx (z := 0) (hb Y d12_40) <| sN X916 hx (L' := #[(rv c1), (rv c9), (iv 0), (iv 0)]) (hb Y d12_41) rfl <| iN X916 hx (hb Y d12_42) rfl <| aN X916 hx (hb Y d12_43) rfl rfl <| f_face X916 hx hZ hO (by rw [hml]; rfl) (xi := yl13) (y := y13) (w91 hw) (w92 hw) (mvT hZ (w93 hw)) (w94 hw) (w95 hw) (w96 hw) (w97 hw) (w98 hw) (w23 hw) (w99 hw) e916 E_c9 (argsL := []) (rest := [(.int 0)]) (q580 l Z a0 hw [] h0 n0 c9 F_c9_s) (lenOf pd9 rfl) (hb Y d12_44) fun T917 L917 v917 X917 hQ917 => ?_
    obtain ⟨rfl, N917q, e917⟩ := hQ917
    have N917 := Fr.app N914 N917q
    refine cN X917 hx (hb Y d12_49) <| f_getS X917 hx hZ hO (w100 hw) e917 S__SwitchMap_com_example_g (hb Y d12_52) fun T919 X919 e919 => ?_
    refine aN X919 hx (hb Y d12_55) rfl rfl <| iN X919 hx (hb Y d12_56) rfl <| f_face X919 hx hZ hO (by rw [hml]; rfl) (xi := yl18) (y := y14) (w103 hw) (w104 hw) (mvT hZ (w105 hw)) (w106 hw) (w107 hw) (w108 hw) (w109 hw) (w98 hw) (w23 hw) (w110 hw) e919 E_c9 (argsL := [(.int 0)]) (rest := [(.ref s_SW)]) (q927 l Z a0 hw [] h0 n0 c9 c10 kc7 s_DRAW F_c9_s F_c9_elementData V_c10 E_c9) (lenOf pd11 rfl) (hb Y d12_57) fun T920 L920 v920 X920 hQ920 => ?_
    obtain ⟨rfl, N920q, e920⟩ := hQ920
    have N920 := Fr.app N917 N920q
    refine f_cast1 X920 hx hZ hO (w124 hw) e920 (Ins.self E_s_DRAW) (hb Y d12_62) fun T928 X928 e928 => ?_
    refine f_up X928 hx hZ hO (by rw [hml]; rfl) (xi := yl20) (y := y18) (owner := "java/lang/Enum") (w126 hw) (w127 hw) (w128 hw) (w130 hw) (w129 hw) (w131 hw) (w132 hw) e928 E_s_DRAW (argsL := []) (rest := [(.ref s_SW)]) (q700 l Z a0 hw [] h0 n0 s_DRAW F_s_DRAW_ordinal) (lenOf pd9 rfl) (hb Y d12_65) fun T929 L929 v929 X929 hQ929 => ?_
    obtain ⟨rfl, N929q, e929⟩ := hQ929
    have N929 := Fr.app N920 N929q
    refine f_iald X929 hx hZ e929 V_s_SW (v := (.int 2)) rfl (hb Y d12_68) <| f_tsw X929 hx (o := 40) (pc := 69) 109 (hb Y d12_69) (by decide +kernel) (by decide +kernel) <| aN X929 hx (hb Y d12_109) rfl rfl <| gF X929 hx hZ hO (w17 hw) Via.refl e929 F_c1_draws (hb Y d12_110) fun T931 X931 e931 => ?_
    refine iN X931 hx (hb Y d12_113) rfl <| f_dup2 X931 hx (hb Y d12_114) rfl rfl <| f_iald X931 hx hZ e931 V_c3 (v := (.int n5_)) rfl (hb Y d12_115) <| iK X931 hx (z := 1) (hb Y d12_116) <| iA X931 hx (z := (n5_ + (1 : Int32))) (hb Y d12_117) (q := rfl) <| f_ist X931 hx hZ e931 V_c3 0 (hb Y d12_118) fun T932 h932 X932 e932 W932 V932 => ?_
    have N932x := Fr.snoc X932 N929 (by omega : n0 ≤ c3)
    refine f_iinc X932 hx (L' := #[(rv c1), (rv c9), (iv 1), (iv 0)]) (hb Y d12_119) rfl rfl <| gT X932 hx (pc := 122) 135 (hb Y d12_122) <| f_iinc X932 hx (L' := #[(rv c1), (rv c9), (iv 1), (iv 1)]) (hb Y d12_135) rfl rfl <| gT X932 hx (pc := 138) 42 (hb Y d12_138) <| iN X932 hx (hb Y d12_42) rfl <| aN X932 hx (hb Y d12_43) rfl rfl ?_
    replace F_c9_s := (fo W932 F_c9_s)
    replace E_c9 := (xw W932 E_c9)
    refine f_face X932 hx hZ hO (by rw [hml]; rfl) (xi := yl13) (y := y13) (w91 hw) (w92 hw) (mvT hZ (w93 hw)) (w94 hw) (w95 hw) (w96 hw) (w97 hw) (w98 hw) (w23 hw) (w99 hw) e932 E_c9 (argsL := []) (rest := [(.int 1)]) (q580 l Z a0 hw [] h932 n0 c9 F_c9_s) (lenOf pd9 rfl) (hb Y d12_44) fun T933 L933 v933 X933 hQ933 => ?_
    obtain ⟨rfl, N933q, e933⟩ := hQ933
    have N933 := Fr.app N932x N933q
    refine cN X933 hx (hb Y d12_49) ?_
    replace S__SwitchMap_com_example_g := (Sta.wr W932 S__SwitchMap_com_example_g)
    refine f_getS X933 hx hZ hO (w100 hw) e933 S__SwitchMap_com_example_g (hb Y d12_52) fun T935 X935 e935 => ?_
    refine aN X935 hx (hb Y d12_55) rfl rfl <| iN X935 hx (hb Y d12_56) rfl ?_
    replace F_c9_elementData := (fo W932 F_c9_elementData)
    replace V_c10 := (vo V_c10 W932)
    refine f_face X935 hx hZ hO (by rw [hml]; rfl) (xi := yl18) (y := y14) (w103 hw) (w104 hw) (mvT hZ (w105 hw)) (w106 hw) (w107 hw) (w108 hw) (w109 hw) (w98 hw) (w23 hw) (w110 hw) e935 E_c9 (argsL := [(.int 1)]) (rest := [(.ref s_SW)]) (q943 l Z a0 hw [] h932 n0 c9 c10 kc7 s_DRAW F_c9_s F_c9_elementData V_c10 E_c9) (lenOf pd11 rfl) (hb Y d12_57) fun T936 L936 v936 X936 hQ936 => ?_
    obtain ⟨rfl, N936q, e936⟩ := hQ936
    have N936 := Fr.app N933 N936q
    replace E_s_DRAW := (xw W932 E_s_DRAW)
    refine f_cast1 X936 hx hZ hO (w124 hw) e936 (Ins.self E_s_DRAW) (hb Y d12_62) fun T944 X944 e944 => ?_
    replace F_s_DRAW_ordinal := (fo W932 F_s_DRAW_ordinal)
    refine f_up X944 hx hZ hO (by rw [hml]; rfl) (xi := yl20) (y := y18) (owner := "java/lang/Enum") (w126 hw) (w127 hw) (w128 hw) (w130 hw) (w129 hw) (w131 hw) (w132 hw) e944 E_s_DRAW (argsL := []) (rest := [(.ref s_SW)]) (q700 l Z a0 hw [] h932 n0 s_DRAW F_s_DRAW_ordinal) (lenOf pd9 rfl) (hb Y d12_65) fun T945 L945 v945 X945 hQ945 => ?_
    obtain ⟨rfl, N945q, e945⟩ := hQ945
    have N945 := Fr.app N936 N945q
    replace V_s_SW := (vo V_s_SW W932)
    refine f_iald X945 hx hZ e945 V_s_SW (v := (.int 2)) rfl (hb Y d12_68) <| f_tsw X945 hx (o := 40) (pc := 69) 109 (hb Y d12_69) (by decide +kernel) (by decide +kernel) <| aN X945 hx (hb Y d12_109) rfl rfl ?_
    replace F_c1_draws := (fo W932 F_c1_draws)
    refine gF X945 hx hZ hO (w17 hw) Via.refl e945 F_c1_draws (hb Y d12_110) fun T947 X947 e947 => ?_
    refine iN X947 hx (hb Y d12_113) rfl <| f_dup2 X947 hx (hb Y d12_114) rfl rfl ?_
    replace V_c3 := V932
    refine f_iald X947 hx hZ e947 V_c3 (v := (.int n6_)) rfl (hb Y d12_115) <| iK X947 hx (z := 1) (hb Y d12_116) <| iA X947 hx (z := (n6_ + (1 : Int32))) (hb Y d12_117) (q := rfl) <| f_ist X947 hx hZ e947 V_c3 1 (hb Y d12_118) fun T948 h948 X948 e948 W948 V948 => ?_
    have N948x := Fr.snoc X948 N945 (by omega : n0 ≤ c3)
    refine f_iinc X948 hx (L' := #[(rv c1), (rv c9), (iv 2), (iv 1)]) (hb Y d12_119) rfl rfl <| gT X948 hx (pc := 122) 135 (hb Y d12_122) <| f_iinc X948 hx (L' := #[(rv c1), (rv c9), (iv 2), (iv 2)]) (hb Y d12_135) rfl rfl <| gT X948 hx (pc := 138) 42 (hb Y d12_138) <| iN X948 hx (hb Y d12_42) rfl <| aN X948 hx (hb Y d12_43) rfl rfl ?_
    replace F_c9_s := (fo W948 F_c9_s)
    replace E_c9 := (xw W948 E_c9)
    refine f_face X948 hx hZ hO (by rw [hml]; rfl) (xi := yl13) (y := y13) (w91 hw) (w92 hw) (mvT hZ (w93 hw)) (w94 hw) (w95 hw) (w96 hw) (w97 hw) (w98 hw) (w23 hw) (w99 hw) e948 E_c9 (argsL := []) (rest := [(.int 2)]) (q580 l Z a0 hw [] h948 n0 c9 F_c9_s) (lenOf pd9 rfl) (hb Y d12_44) fun T949 L949 v949 X949 hQ949 => ?_
    obtain ⟨rfl, N949q, e949⟩ := hQ949
    have N949 := Fr.app N948x N949q
    refine cY X949 hx (pc := 49) 141 (hb Y d12_49) <| iN X949 hx (hb Y d12_141) rfl <| aN X949 hx (hb Y d12_142) rfl rfl <| f_face X949 hx hZ hO (by rw [hml]; rfl) (xi := yl13) (y := y13) (w91 hw) (w92 hw) (mvT hZ (w93 hw)) (w94 hw) (w95 hw) (w96 hw) (w97 hw) (w98 hw) (w23 hw) (w99 hw) e949 E_c9 (argsL := []) (rest := [(.int 2)]) (q580 l Z a0 hw [] h948 n0 c9 F_c9_s) (lenOf pd9 rfl) (hb Y d12_143) fun T951 L951 v951 X951 hQ951 => ?_
    obtain ⟨rfl, N951q, e951⟩ := hQ951
    have N951 := Fr.app N949 N951q
    refine cN X951 hx (hb Y d12_148) <| aN X951 hx (hb Y d12_151) rfl rfl <| f_dup X951 hx (hb Y d12_152) rfl ?_
    replace F_c1_drawnMatches := (fo W948 (fo W932 F_c1_drawnMatches))
    refine gF X951 hx hZ hO (w142 hw) Via.refl e951 F_c1_drawnMatches (hb Y d12_153) fun T953 X953 e953 => ?_
    refine iK X953 hx (z := 1) (hb Y d12_156) <| iA X953 hx (z := (n2_ + (1 : Int32))) (hb Y d12_157) (q := rfl) ?_
    replace E_c1 := (xw W948 (xw W932 E_c1))
    refine f_putF X953 hx hZ hO (w142 hw) Via.refl e953 F_c1_drawnMatches E_c1 (Or.inl (w143 hw)) (w6 hw) (ty := .int) (by decide) rfl rfl (hb Y d12_158) fun T954 h954 X954 e954 W954 => ?_
    have N954x := Fr.snoc X954 N951 (by omega : n0 ≤ c1)
    refine aN X954 hx (hb Y d12_161) rfl rfl <| f_dup X954 hx (hb Y d12_162) rfl ?_
    replace F_c1_matches := (Fld.other W954 (fo W948 (fo W932 F_c1_matches)) (Or.inr (slot_ne (Or.inl (w136 hw)) (Or.inl (w143 hw)) (by decide) (t := .int) (t' := .int) (by decide) (by decide))))
    refine gF X954 hx hZ hO (w135 hw) Via.refl e954 F_c1_matches (hb Y d12_163) fun T955 X955 e955 => ?_
    refine iK X955 hx (z := 1) (hb Y d12_166) <| iA X955 hx (z := (n1_ + (1 : Int32))) (hb Y d12_167) (q := rfl) ?_
    replace E_c1 := (xw W954 E_c1)
    refine f_putF X955 hx hZ hO (w135 hw) Via.refl e955 F_c1_matches E_c1 (Or.inl (w136 hw)) (w6 hw) (ty := .int) (by decide) rfl rfl (hb Y d12_168) fun T956 h956 X956 e956 W956 => ?_
    have N956x := Fr.snoc X956 N954x (by omega : n0 ≤ c1)
    exact f_ret0 X956 hx hlk hret (hb Y d12_171) (QQ := _) (by rw [e956]; exact ⟨rfl, N956x, (Sta.wr W956 (Sta.wr W954 (Sta.wr W948 (Sta.wr W932 S_WIN)))), (Sta.wr W956 (Sta.wr W954 (Sta.wr W948 (Sta.wr W932 S_LOSS)))), (Sta.wr W956 (Sta.wr W954 (Sta.wr W948 (Sta.wr W932 S_DRAW)))), (Sta.wr W956 (Sta.wr W954 (Sta.wr W948 S__SwitchMap_com_example_g))), (Sta.wr W956 (Sta.wr W954 (Sta.wr W948 (Sta.wr W932 S_DEFAULTCAPACITY_EMPTY_EL)))), (xw W956 (xw W954 (xw W948 (xw W932 E_s_WIN)))), (fo W956 (fo W954 (fo W948 (fo W932 F_s_WIN_ordinal)))), (xw W956 (xw W954 (xw W948 (xw W932 E_s_LOSS)))), (fo W956 (fo W954 (fo W948 (fo W932 F_s_LOSS_ordinal)))), (xw W956 (xw W954 (xw W948 E_s_DRAW))), (fo W956 (fo W954 (fo W948 F_s_DRAW_ordinal))), (vo (vo (vo V_s_SW W948) W954) W956), (vo (vo (vo (vo V_s_EM W932) W948) W954) W956), (xw W956 E_c1), (Fld.other W956 (Fld.other W954 (fo W948 (fo W932 F_c1_wins)) (Or.inr (slot_ne (Or.inr (w16 hw)) (Or.inl (w143 hw)) (by decide) (t := (.array .int)) (t' := .int) (by decide) (by decide)))) (Or.inr (slot_ne (Or.inr (w16 hw)) (Or.inl (w136 hw)) (by decide) (t := (.array .int)) (t' := .int) (by decide) (by decide)))), (Fld.other W956 (Fld.other W954 (fo W948 F_c1_draws) (Or.inr (slot_ne (Or.inr (w18 hw)) (Or.inl (w143 hw)) (by decide) (t := (.array .int)) (t' := .int) (by decide) (by decide)))) (Or.inr (slot_ne (Or.inr (w18 hw)) (Or.inl (w136 hw)) (by decide) (t := (.array .int)) (t' := .int) (by decide) (by decide)))), (Fld.other W956 (Fld.other W954 (fo W948 (fo W932 F_c1_losses)) (Or.inr (slot_ne (Or.inr (w20 hw)) (Or.inl (w143 hw)) (by decide) (t := (.array .int)) (t' := .int) (by decide) (by decide)))) (Or.inr (slot_ne (Or.inr (w20 hw)) (Or.inl (w136 hw)) (by decide) (t := (.array .int)) (t' := .int) (by decide) (by decide)))), (Fld.same W956 F_c1_matches), (Fld.other W956 (Fld.same W954 F_c1_drawnMatches) (Or.inr (slot_ne (Or.inl (w143 hw)) (Or.inl (w136 hw)) (by decide) (t := .int) (t' := .int) (by decide) (by decide)))), (vo (vo (vo (vo V_c2 W932) W948) W954) W956), (vo (vo V948 W954) W956), (vo (vo (vo (vo V_c4 W932) W948) W954) W956), (xw W956 (xw W954 (xw W948 (xw W932 E_c5)))), (fo W956 (fo W954 (fo W948 (fo W932 F_c5_wins)))), (fo W956 (fo W954 (fo W948 (fo W932 F_c5_draws)))), (fo W956 (fo W954 (fo W948 (fo W932 F_c5_losses)))), (fo W956 (fo W954 (fo W948 (fo W932 F_c5_matches)))), (fo W956 (fo W954 (fo W948 (fo W932 F_c5_drawnMatches)))), (vo (vo (vo (vo V_c6 W932) W948) W954) W956), (vo (vo (vo (vo V_c7 W932) W948) W954) W956), (vo (vo (vo (vo V_c8 W932) W948) W954) W956), (xw W956 (xw W954 E_c9)), (fo W956 (fo W954 (fo W948 (fo W932 F_c9_modCount)))), (fo W956 (fo W954 (fo W948 F_c9_elementData))), (fo W956 (fo W954 F_c9_s)), (xw W956 (xw W954 (xw W948 E_s_DRAW))), (xw W956 (xw W954 (xw W948 (xw W932 E_c10)))), (vo (vo (vo V_c10 W948) W954) W956), O_c10, (xw W956 (xw W954 (xw W948 E_s_DRAW))), (xw W956 (xw W954 (xw W948 (xw W932 E_c11)))), (fo W956 (fo W954 (fo W948 (fo W932 F_c11_modCount)))), (fo W956 (fo W954 (fo W948 (fo W932 F_c11_elementData)))), (fo W956 (fo W954 (fo W948 (fo W932 F_c11_s)))), (xw W956 (xw W954 (xw W948 (xw W932 E_e2_)))), (xw W956 (xw W954 (xw W948 (xw W932 E_c12)))), (vo (vo (vo (vo V_c12 W932) W948) W954) W956), O_c12, (xw W956 (xw W954 (xw W948 (xw W932 E_e3_)))), g_c1, lt_c1_c2, lt_c2_c3, lt_c3_c4, lt_c4_c5, lt_c5_c6, lt_c6_c7, lt_c7_c8, lt_c8_c9, lt_c9_c10, lt_c10_c11, lt_c11_c12, od_s_WIN, od_s_LOSS, od_s_DRAW, od_s_SW, od_s_EM, od_s_DRAW, od_s_DRAW, od_e2_, od_e3_, hv0, hv1, hv2, hv3, (Or.inr (Or.inr ⟨rfl, rfl⟩)), (Or.inr (Or.inr ⟨rfl, rfl⟩)), he2, he3⟩) (by decide) (by decide)
def St29 (Z : State) (h : Heap) (n0 : Nat) (s_WIN : Nat) (s_LOSS : Nat) (s_DRAW : Nat) (s_SW : Nat) (s_EM : Nat) (e0_ : Nat) (e1_ : Nat) (e2_ : Nat) (e3_ : Nat) (c1 : Nat) (c2 : Nat) (c3 : Nat) (c4 : Nat) (c5 : Nat) (c6 : Nat) (c7 : Nat) (c8 : Nat) (c9 : Nat) (c10 : Nat) (c11 : Nat) (c12 : Nat) (k901 : ClassId) (k902 : ClassId) (kc1 : ClassId) (kc2 : ClassId) (kc3 : ClassId) (kc4 : ClassId) (kc5 : ClassId) (kc6 : ClassId) (kc7 : ClassId) (kc8 : ClassId) (n1_ : Int32) (n2_ : Int32) (n3_ : Int32) (n4_ : Int32) (n5_ : Int32) (n6_ : Int32) (n7_ : Int32) (n8_ : Int32) (n9_ : Int32) (n10_ : Int32) (v2_ : Int32) (v3_ : Int32) (n11_ : Int32) (n12_ : Int32) (n13_ : Int32) (n14_ : Int32) (n15_ : Int32) (n16_ : Int32) (v0_ : Int32) (v1_ : Int32) : Prop :=
  Sta Z h cR "WIN" "Lcom/example/gamesmith/gamesmith/game/Result;" (.ref s_WIN) ∧
  Sta Z h cR "LOSS" "Lcom/example/gamesmith/gamesmith/game/Result;" (.ref s_LOSS) ∧
  Sta Z h cR "DRAW" "Lcom/example/gamesmith/gamesmith/game/Result;" (.ref s_DRAW) ∧
  Sta Z h "com/example/gamesmith/gamesmith/arena/Tally$1" "$SwitchMap$com$example$gamesmith$gamesmith$game$Result" "[I" (.ref s_SW) ∧
  Sta Z h cA "DEFAULTCAPACITY_EMPTY_ELEMENTDATA" "[Ljava/lang/Object;" (.ref s_EM) ∧
  Exa Z h s_WIN cR ∧
  Fld Z h s_WIN "java/lang/Enum" "ordinal" "I" (.int 0) ∧
  Exa Z h s_LOSS cR ∧
  Fld Z h s_LOSS "java/lang/Enum" "ordinal" "I" (.int 1) ∧
  Exa Z h s_DRAW cR ∧
  Fld Z h s_DRAW "java/lang/Enum" "ordinal" "I" (.int 2) ∧
  Arv Z h s_SW k901 .int 3 [(.int 1), (.int 3), (.int 2)] (.int 0) ∧
  Arv Z h s_EM k902 (.object "java/lang/Object") 0 [] .null ∧
  Exa Z h c1 cT ∧
  Fld Z h c1 cT "wins" "[I" (.ref c2) ∧
  Fld Z h c1 cT "draws" "[I" (.ref c3) ∧
  Fld Z h c1 cT "losses" "[I" (.ref c4) ∧
  Fld Z h c1 cT "matches" "I" (.int n1_) ∧
  Fld Z h c1 cT "drawnMatches" "I" (.int n2_) ∧
  Arv Z h c2 kc1 .int 2 [(.int n3_), (.int n4_)] (.int 0) ∧
  Arv Z h c3 kc2 .int 2 [(.int n5_), (.int n6_)] (.int 0) ∧
  Arv Z h c4 kc3 .int 2 [(.int n7_), (.int n8_)] (.int 0) ∧
  Exa Z h c5 cT ∧
  Fld Z h c5 cT "wins" "[I" (.ref c6) ∧
  Fld Z h c5 cT "draws" "[I" (.ref c7) ∧
  Fld Z h c5 cT "losses" "[I" (.ref c8) ∧
  Fld Z h c5 cT "matches" "I" (.int (n9_ + (1 : Int32))) ∧
  Fld Z h c5 cT "drawnMatches" "I" (.int (bumpD n10_ v2_ v3_)) ∧
  Arv Z h c6 kc4 .int 2 [(.int (bump n11_ v2_ 0)), (.int (bump n12_ v3_ 0))] (.int 0) ∧
  Arv Z h c7 kc5 .int 2 [(.int (bump n13_ v2_ 2)), (.int (bump n14_ v3_ 2))] (.int 0) ∧
  Arv Z h c8 kc6 .int 2 [(.int (bump n15_ v2_ 1)), (.int (bump n16_ v3_ 1))] (.int 0) ∧
  Exa Z h c9 cA ∧
  Fld Z h c9 "java/util/AbstractList" "modCount" "I" (.int 2) ∧
  Fld Z h c9 cA "elementData" "[Ljava/lang/Object;" (.ref c10) ∧
  Fld Z h c9 cA "size" "I" (.int 2) ∧
  Exa Z h e0_ cR ∧
  Exa Z h c10 "[Ljava/lang/Object;" ∧
  Arv Z h c10 kc7 (.object "java/lang/Object") 10 [(.ref e0_), (.ref e1_), .null, .null, .null, .null, .null, .null, .null, .null] .null ∧
  Ovr Z kc7 "java/lang/Object" ∧
  Exa Z h e1_ cR ∧
  Exa Z h c11 cA ∧
  Fld Z h c11 "java/util/AbstractList" "modCount" "I" (.int 2) ∧
  Fld Z h c11 cA "elementData" "[Ljava/lang/Object;" (.ref c12) ∧
  Fld Z h c11 cA "size" "I" (.int 2) ∧
  Exa Z h e2_ cR ∧
  Exa Z h c12 "[Ljava/lang/Object;" ∧
  Arv Z h c12 kc8 (.object "java/lang/Object") 10 [(.ref e2_), (.ref e3_), .null, .null, .null, .null, .null, .null, .null, .null] .null ∧
  Ovr Z kc8 "java/lang/Object" ∧
  Exa Z h e3_ cR ∧
  n0 ≤ c1 ∧
  c1 < c2 ∧
  c2 < c3 ∧
  c3 < c4 ∧
  c4 < c5 ∧
  c5 < c6 ∧
  c6 < c7 ∧
  c7 < c8 ∧
  c8 < c9 ∧
  c9 < c10 ∧
  c10 < c11 ∧
  c11 < c12 ∧
  s_WIN < n0 ∧
  s_LOSS < n0 ∧
  s_DRAW < n0 ∧
  s_SW < n0 ∧
  s_EM < n0 ∧
  e0_ < n0 ∧
  e1_ < n0 ∧
  e2_ < n0 ∧
  e3_ < n0 ∧
  (v0_ = (0 : Int32) ∨ v0_ = (1 : Int32) ∨ v0_ = (2 : Int32)) ∧
  (v1_ = (0 : Int32) ∨ v1_ = (1 : Int32) ∨ v1_ = (2 : Int32)) ∧
  (v2_ = (0 : Int32) ∨ v2_ = (1 : Int32) ∨ v2_ = (2 : Int32)) ∧
  (v3_ = (0 : Int32) ∨ v3_ = (1 : Int32) ∨ v3_ = (2 : Int32)) ∧
  (((0 : Int32) = v0_ ∧ s_WIN = e0_) ∨ ((1 : Int32) = v0_ ∧ s_LOSS = e0_) ∨ ((2 : Int32) = v0_ ∧ s_DRAW = e0_)) ∧
  (((0 : Int32) = v1_ ∧ s_WIN = e1_) ∨ ((1 : Int32) = v1_ ∧ s_LOSS = e1_) ∨ ((2 : Int32) = v1_ ∧ s_DRAW = e1_)) ∧
  (((0 : Int32) = v2_ ∧ s_WIN = e2_) ∨ ((1 : Int32) = v2_ ∧ s_LOSS = e2_) ∨ ((2 : Int32) = v2_ ∧ s_DRAW = e2_)) ∧
  (((0 : Int32) = v3_ ∧ s_WIN = e3_) ∨ ((1 : Int32) = v3_ ∧ s_LOSS = e3_) ∨ ((2 : Int32) = v3_ ∧ s_DRAW = e3_))
def Qr959 (Z : State) (n0 : Nat) (s_WIN : Nat) (s_LOSS : Nat) (s_DRAW : Nat) (s_SW : Nat) (s_EM : Nat) (e0_ : Nat) (e1_ : Nat) (e2_ : Nat) (e3_ : Nat) (c1 : Nat) (c2 : Nat) (c3 : Nat) (c4 : Nat) (c5 : Nat) (c6 : Nat) (c7 : Nat) (c8 : Nat) (c9 : Nat) (c10 : Nat) (c11 : Nat) (c12 : Nat) (k901 : ClassId) (k902 : ClassId) (kc1 : ClassId) (kc2 : ClassId) (kc3 : ClassId) (kc4 : ClassId) (kc5 : ClassId) (kc6 : ClassId) (kc7 : ClassId) (kc8 : ClassId) (n1_ : Int32) (n2_ : Int32) (n3_ : Int32) (n4_ : Int32) (n5_ : Int32) (n6_ : Int32) (n7_ : Int32) (n8_ : Int32) (n9_ : Int32) (n10_ : Int32) (n11_ : Int32) (n12_ : Int32) (n13_ : Int32) (n14_ : Int32) (n15_ : Int32) (n16_ : Int32) (v0_ : Int32) (v1_ : Int32) (v2_ : Int32) (v3_ : Int32) (v : Option Value) (h : Heap) (L : List Loc) : Prop := v = none ∧ Fr n0 L ∧ St29 Z h n0 s_WIN s_LOSS s_DRAW s_SW s_EM e0_ e1_ e2_ e3_ c1 c2 c3 c4 c5 c6 c7 c8 c9 c10 c11 c12 k901 k902 kc1 kc2 kc3 kc4 kc5 kc6 kc7 kc8 n1_ n2_ n3_ n4_ n5_ n6_ n7_ n8_ n9_ n10_ v2_ v3_ n11_ n12_ n13_ n14_ n15_ n16_ v0_ v1_
theorem mr959 (l : Launch) (Z : State) (a0 : Array Value) (hw : HW a0 Z) (ws : List Jvm.Cond) (h0 : Heap) (n0 : Nat) (s_WIN : Nat) (s_LOSS : Nat) (s_DRAW : Nat) (s_SW : Nat) (s_EM : Nat) (e0_ : Nat) (e1_ : Nat) (e2_ : Nat) (e3_ : Nat) (c1 : Nat) (c2 : Nat) (c3 : Nat) (c4 : Nat) (c5 : Nat) (c6 : Nat) (c7 : Nat) (c8 : Nat) (c9 : Nat) (c10 : Nat) (c11 : Nat) (c12 : Nat) (k901 : ClassId) (k902 : ClassId) (kc1 : ClassId) (kc2 : ClassId) (kc3 : ClassId) (kc4 : ClassId) (kc5 : ClassId) (kc6 : ClassId) (kc7 : ClassId) (kc8 : ClassId) (n1_ : Int32) (n2_ : Int32) (n3_ : Int32) (n4_ : Int32) (n5_ : Int32) (n6_ : Int32) (n7_ : Int32) (n8_ : Int32) (n9_ : Int32) (n10_ : Int32) (n11_ : Int32) (n12_ : Int32) (n13_ : Int32) (n14_ : Int32) (n15_ : Int32) (n16_ : Int32) (v0_ : Int32) (v1_ : Int32) (v2_ : Int32) (v3_ : Int32) (P : St27 Z h0 n0 s_WIN s_LOSS s_DRAW s_SW s_EM e0_ e1_ e2_ e3_ c1 c2 c3 c4 c5 c6 c7 c8 c9 c10 c11 c12 k901 k902 kc1 kc2 kc3 kc4 kc5 kc6 kc7 kc8 n1_ n2_ n3_ n4_ n5_ n6_ n7_ n8_ n9_ n10_ n11_ n12_ n13_ n14_ n15_ n16_ v0_ v1_ v2_ v3_) :
    MC l Z y12 prog_6_method_2_code 4 none ws rm_3_0_0_41 #[(.ref c5), (.ref c11)] h0 (Qr959 Z n0 s_WIN s_LOSS s_DRAW s_SW s_EM e0_ e1_ e2_ e3_ c1 c2 c3 c4 c5 c6 c7 c8 c9 c10 c11 c12 k901 k902 kc1 kc2 kc3 kc4 kc5 kc6 kc7 kc8 n1_ n2_ n3_ n4_ n5_ n6_ n7_ n8_ n9_ n10_ n11_ n12_ n13_ n14_ n15_ n16_ v0_ v1_ v2_ v3_) := by
  obtain ⟨S_WIN, S_LOSS, S_DRAW, S__SwitchMap_com_example_g, S_DEFAULTCAPACITY_EMPTY_EL, E_s_WIN, F_s_WIN_ordinal, E_s_LOSS, F_s_LOSS_ordinal, E_s_DRAW, F_s_DRAW_ordinal, V_s_SW, V_s_EM, E_c1, F_c1_wins, F_c1_draws, F_c1_losses, F_c1_matches, F_c1_drawnMatches, V_c2, V_c3, V_c4, E_c5, F_c5_wins, F_c5_draws, F_c5_losses, F_c5_matches, F_c5_drawnMatches, V_c6, V_c7, V_c8, E_c9, F_c9_modCount, F_c9_elementData, F_c9_s, E_e0_, E_c10, V_c10, O_c10, E_e1_, E_c11, F_c11_modCount, F_c11_elementData, F_c11_s, E_e2_, E_c12, V_c12, O_c12, E_e3_, g_c1, lt_c1_c2, lt_c2_c3, lt_c3_c4, lt_c4_c5, lt_c5_c6, lt_c6_c7, lt_c7_c8, lt_c8_c9, lt_c9_c10, lt_c10_c11, lt_c11_c12, od_s_WIN, od_s_LOSS, od_s_DRAW, od_s_SW, od_s_EM, od_e0_, od_e1_, od_e2_, od_e3_, hv0, hv1, hv2, hv3, he0, he1, he2, he3⟩ := id P
  refine own_met (plainFor_of_name pn12) fun p e s m below meth c s₁ X0 hx hZ Y hml hO hnm hlk hret e0 => f_cast (f' := mkF m 0 #[(rv c5), (rv c11), .unset, .unset] []) (by first | (simp [entryFrame, mkF, argsToLocals, Value.category]; done) | rfl) ?_
  have N0 := Fr.nil n0
  rcases he2 with ⟨rfl, rfl⟩ | ⟨rfl, rfl⟩ | ⟨rfl, rfl⟩ <;> rcases he3 with ⟨rfl, rfl⟩ | ⟨rfl, rfl⟩ | ⟨rfl, rfl⟩
  · refine aN X0 hx (hb Y d12_0) rfl rfl <| f_face X0 hx hZ hO (by rw [hml]; rfl) (xi := yl13) (y := y13) (w91 hw) (w92 hw) (mvT hZ (w93 hw)) (w94 hw) (w95 hw) (w96 hw) (w97 hw) (w98 hw) (w23 hw) (w99 hw) e0 E_c11 (argsL := []) (rest := []) (q580 l Z a0 hw [] h0 n0 c11 F_c11_s) (lenOf pd9 rfl) (hb Y d12_1) fun T960 L960 v960 X960 hQ960 => ?_
    obtain ⟨rfl, N960q, e960⟩ := hQ960
    have N960 := Fr.app N0 N960q
    refine aN X960 hx (hb Y d12_6) rfl rfl <| gF X960 hx hZ hO (w15 hw) Via.refl e960 F_c5_wins (hb Y d12_7) fun T962 X962 e962 => ?_
    refine f_len X962 hx hZ e962 V_c6 (hb Y d12_10) <| cY X962 hx (pc := 11) 38 (hb Y d12_11) <| iK X962 hx (z := 0) (hb Y d12_38) <| sN X962 hx (L' := #[(rv c5), (rv c11), (iv 0), .unset]) (hb Y d12_39) rfl <| iK X962 hx (z := 0) (hb Y d12_40) <| sN X962 hx (L' := #[(rv c5), (rv c11), (iv 0), (iv 0)]) (hb Y d12_41) rfl <| iN X962 hx (hb Y d12_42) rfl <| aN X962 hx (hb Y d12_43) rfl rfl <| f_face X962 hx hZ hO (by rw [hml]; rfl) (xi := yl13) (y := y13) (w91 hw) (w92 hw) (mvT hZ (w93 hw)) (w94 hw) (w95 hw) (w96 hw) (w97 hw) (w98 hw) (w23 hw) (w99 hw) e962 E_c11 (argsL := []) (rest := [(.int 0)]) (q580 l Z a0 hw [] h0 n0 c11 F_c11_s) (lenOf pd9 rfl) (hb Y d12_44) fun T963 L963 v963 X963 hQ963 => ?_
    obtain ⟨rfl, N963q, e963⟩ := hQ963
    have N963 := Fr.app N960 N963q
    refine cN X963 hx (hb Y d12_49) <| f_getS X963 hx hZ hO (w100 hw) e963 S__SwitchMap_com_example_g (hb Y d12_52) fun T965 X965 e965 => ?_
    refine aN X965 hx (hb Y d12_55) rfl rfl <| iN X965 hx (hb Y d12_56) rfl <| f_face X965 hx hZ hO (by rw [hml]; rfl) (xi := yl18) (y := y14) (w103 hw) (w104 hw) (mvT hZ (w105 hw)) (w106 hw) (w107 hw) (w108 hw) (w109 hw) (w98 hw) (w23 hw) (w110 hw) e965 E_c11 (argsL := [(.int 0)]) (rest := [(.ref s_SW)]) (q594 l Z a0 hw [] h0 n0 c11 c12 kc8 s_WIN F_c11_s F_c11_elementData V_c12 E_c11) (lenOf pd11 rfl) (hb Y d12_57) fun T966 L966 v966 X966 hQ966 => ?_
    obtain ⟨rfl, N966q, e966⟩ := hQ966
    have N966 := Fr.app N963 N966q
    refine f_cast1 X966 hx hZ hO (w124 hw) e966 (Ins.self E_s_WIN) (hb Y d12_62) fun T972 X972 e972 => ?_
    refine f_up X972 hx hZ hO (by rw [hml]; rfl) (xi := yl20) (y := y18) (owner := "java/lang/Enum") (w126 hw) (w127 hw) (w128 hw) (w130 hw) (w129 hw) (w131 hw) (w132 hw) e972 E_s_WIN (argsL := []) (rest := [(.ref s_SW)]) (q598 l Z a0 hw [] h0 n0 s_WIN F_s_WIN_ordinal) (lenOf pd9 rfl) (hb Y d12_65) fun T973 L973 v973 X973 hQ973 => ?_
    obtain ⟨rfl, N973q, e973⟩ := hQ973
    have N973 := Fr.app N966 N973q
    refine f_iald X973 hx hZ e973 V_s_SW (v := (.int 1)) rfl (hb Y d12_68) <| f_tsw X973 hx (o := 27) (pc := 69) 96 (hb Y d12_69) (by decide +kernel) (by decide +kernel) <| aN X973 hx (hb Y d12_96) rfl rfl <| gF X973 hx hZ hO (w15 hw) Via.refl e973 F_c5_wins (hb Y d12_97) fun T975 X975 e975 => ?_
    refine iN X975 hx (hb Y d12_100) rfl <| f_dup2 X975 hx (hb Y d12_101) rfl rfl <| f_iald X975 hx hZ e975 V_c6 (v := (.int n11_)) rfl (hb Y d12_102) <| iK X975 hx (z := 1) (hb Y d12_103) <| iA X975 hx (z := (n11_ + (1 : Int32))) (hb Y d12_104) (q := rfl) <| f_ist X975 hx hZ e975 V_c6 0 (hb Y d12_105) fun T976 h976 X976 e976 W976 V976 => ?_
    have N976x := Fr.snoc X976 N973 (by omega : n0 ≤ c6)
    refine gT X976 hx (pc := 106) 135 (hb Y d12_106) <| f_iinc X976 hx (L' := #[(rv c5), (rv c11), (iv 0), (iv 1)]) (hb Y d12_135) rfl rfl <| gT X976 hx (pc := 138) 42 (hb Y d12_138) <| iN X976 hx (hb Y d12_42) rfl <| aN X976 hx (hb Y d12_43) rfl rfl ?_
    replace F_c11_s := (fo W976 F_c11_s)
    replace E_c11 := (xw W976 E_c11)
    refine f_face X976 hx hZ hO (by rw [hml]; rfl) (xi := yl13) (y := y13) (w91 hw) (w92 hw) (mvT hZ (w93 hw)) (w94 hw) (w95 hw) (w96 hw) (w97 hw) (w98 hw) (w23 hw) (w99 hw) e976 E_c11 (argsL := []) (rest := [(.int 1)]) (q580 l Z a0 hw [] h976 n0 c11 F_c11_s) (lenOf pd9 rfl) (hb Y d12_44) fun T977 L977 v977 X977 hQ977 => ?_
    obtain ⟨rfl, N977q, e977⟩ := hQ977
    have N977 := Fr.app N976x N977q
    refine cN X977 hx (hb Y d12_49) ?_
    replace S__SwitchMap_com_example_g := (Sta.wr W976 S__SwitchMap_com_example_g)
    refine f_getS X977 hx hZ hO (w100 hw) e977 S__SwitchMap_com_example_g (hb Y d12_52) fun T979 X979 e979 => ?_
    refine aN X979 hx (hb Y d12_55) rfl rfl <| iN X979 hx (hb Y d12_56) rfl ?_
    replace F_c11_elementData := (fo W976 F_c11_elementData)
    replace V_c12 := (vo V_c12 W976)
    refine f_face X979 hx hZ hO (by rw [hml]; rfl) (xi := yl18) (y := y14) (w103 hw) (w104 hw) (mvT hZ (w105 hw)) (w106 hw) (w107 hw) (w108 hw) (w109 hw) (w98 hw) (w23 hw) (w110 hw) e979 E_c11 (argsL := [(.int 1)]) (rest := [(.ref s_SW)]) (q613 l Z a0 hw [] h976 n0 c11 c12 kc8 s_WIN F_c11_s F_c11_elementData V_c12 E_c11) (lenOf pd11 rfl) (hb Y d12_57) fun T980 L980 v980 X980 hQ980 => ?_
    obtain ⟨rfl, N980q, e980⟩ := hQ980
    have N980 := Fr.app N977 N980q
    replace E_s_WIN := (xw W976 E_s_WIN)
    refine f_cast1 X980 hx hZ hO (w124 hw) e980 (Ins.self E_s_WIN) (hb Y d12_62) fun T986 X986 e986 => ?_
    replace F_s_WIN_ordinal := (fo W976 F_s_WIN_ordinal)
    refine f_up X986 hx hZ hO (by rw [hml]; rfl) (xi := yl20) (y := y18) (owner := "java/lang/Enum") (w126 hw) (w127 hw) (w128 hw) (w130 hw) (w129 hw) (w131 hw) (w132 hw) e986 E_s_WIN (argsL := []) (rest := [(.ref s_SW)]) (q598 l Z a0 hw [] h976 n0 s_WIN F_s_WIN_ordinal) (lenOf pd9 rfl) (hb Y d12_65) fun T987 L987 v987 X987 hQ987 => ?_
    obtain ⟨rfl, N987q, e987⟩ := hQ987
    have N987 := Fr.app N980 N987q
    replace V_s_SW := (vo V_s_SW W976)
    refine f_iald X987 hx hZ e987 V_s_SW (v := (.int 1)) rfl (hb Y d12_68) <| f_tsw X987 hx (o := 27) (pc := 69) 96 (hb Y d12_69) (by decide +kernel) (by decide +kernel) <| aN X987 hx (hb Y d12_96) rfl rfl ?_
    replace F_c5_wins := (fo W976 F_c5_wins)
    refine gF X987 hx hZ hO (w15 hw) Via.refl e987 F_c5_wins (hb Y d12_97) fun T989 X989 e989 => ?_
    refine iN X989 hx (hb Y d12_100) rfl <| f_dup2 X989 hx (hb Y d12_101) rfl rfl ?_
    replace V_c6 := V976
    refine f_iald X989 hx hZ e989 V_c6 (v := (.int n12_)) rfl (hb Y d12_102) <| iK X989 hx (z := 1) (hb Y d12_103) <| iA X989 hx (z := (n12_ + (1 : Int32))) (hb Y d12_104) (q := rfl) <| f_ist X989 hx hZ e989 V_c6 1 (hb Y d12_105) fun T990 h990 X990 e990 W990 V990 => ?_
    have N990x := Fr.snoc X990 N987 (by omega : n0 ≤ c6)
    refine gT X990 hx (pc := 106) 135 (hb Y d12_106) <| f_iinc X990 hx (L' := #[(rv c5), (rv c11), (iv 0), (iv 2)]) (hb Y d12_135) rfl rfl <| gT X990 hx (pc := 138) 42 (hb Y d12_138) <| iN X990 hx (hb Y d12_42) rfl <| aN X990 hx (hb Y d12_43) rfl rfl ?_
    replace F_c11_s := (fo W990 F_c11_s)
    replace E_c11 := (xw W990 E_c11)
    refine f_face X990 hx hZ hO (by rw [hml]; rfl) (xi := yl13) (y := y13) (w91 hw) (w92 hw) (mvT hZ (w93 hw)) (w94 hw) (w95 hw) (w96 hw) (w97 hw) (w98 hw) (w23 hw) (w99 hw) e990 E_c11 (argsL := []) (rest := [(.int 2)]) (q580 l Z a0 hw [] h990 n0 c11 F_c11_s) (lenOf pd9 rfl) (hb Y d12_44) fun T991 L991 v991 X991 hQ991 => ?_
    obtain ⟨rfl, N991q, e991⟩ := hQ991
    have N991 := Fr.app N990x N991q
    refine cY X991 hx (pc := 49) 141 (hb Y d12_49) <| iN X991 hx (hb Y d12_141) rfl <| aN X991 hx (hb Y d12_142) rfl rfl <| f_face X991 hx hZ hO (by rw [hml]; rfl) (xi := yl13) (y := y13) (w91 hw) (w92 hw) (mvT hZ (w93 hw)) (w94 hw) (w95 hw) (w96 hw) (w97 hw) (w98 hw) (w23 hw) (w99 hw) e991 E_c11 (argsL := []) (rest := [(.int 0)]) (q580 l Z a0 hw [] h990 n0 c11 F_c11_s) (lenOf pd9 rfl) (hb Y d12_143) fun T993 L993 v993 X993 hQ993 => ?_
    obtain ⟨rfl, N993q, e993⟩ := hQ993
    have N993 := Fr.app N991 N993q
    refine cY X993 hx (pc := 148) 161 (hb Y d12_148) <| aN X993 hx (hb Y d12_161) rfl rfl <| f_dup X993 hx (hb Y d12_162) rfl ?_
    replace F_c5_matches := (fo W990 (fo W976 F_c5_matches))
    refine gF X993 hx hZ hO (w135 hw) Via.refl e993 F_c5_matches (hb Y d12_163) fun T995 X995 e995 => ?_
    refine iK X995 hx (z := 1) (hb Y d12_166) <| iA X995 hx (z := (n9_ + (1 : Int32))) (hb Y d12_167) (q := rfl) ?_
    replace E_c5 := (xw W990 (xw W976 E_c5))
    refine f_putF X995 hx hZ hO (w135 hw) Via.refl e995 F_c5_matches E_c5 (Or.inl (w136 hw)) (w6 hw) (ty := .int) (by decide) rfl rfl (hb Y d12_168) fun T996 h996 X996 e996 W996 => ?_
    have N996x := Fr.snoc X996 N993 (by omega : n0 ≤ c5)
    exact f_ret0 X996 hx hlk hret (hb Y d12_171) (QQ := _) (by rw [e996]; exact ⟨rfl, N996x, (Sta.wr W996 (Sta.wr W990 (Sta.wr W976 S_WIN))), (Sta.wr W996 (Sta.wr W990 (Sta.wr W976 S_LOSS))), (Sta.wr W996 (Sta.wr W990 (Sta.wr W976 S_DRAW))), (Sta.wr W996 (Sta.wr W990 S__SwitchMap_com_example_g)), (Sta.wr W996 (Sta.wr W990 (Sta.wr W976 S_DEFAULTCAPACITY_EMPTY_EL))), (xw W996 (xw W990 E_s_WIN)), (fo W996 (fo W990 F_s_WIN_ordinal)), (xw W996 (xw W990 (xw W976 E_s_LOSS))), (fo W996 (fo W990 (fo W976 F_s_LOSS_ordinal))), (xw W996 (xw W990 (xw W976 E_s_DRAW))), (fo W996 (fo W990 (fo W976 F_s_DRAW_ordinal))), (vo (vo V_s_SW W990) W996), (vo (vo (vo V_s_EM W976) W990) W996), (xw W996 (xw W990 (xw W976 E_c1))), (fo W996 (fo W990 (fo W976 F_c1_wins))), (fo W996 (fo W990 (fo W976 F_c1_draws))), (fo W996 (fo W990 (fo W976 F_c1_losses))), (fo W996 (fo W990 (fo W976 F_c1_matches))), (fo W996 (fo W990 (fo W976 F_c1_drawnMatches))), (vo (vo (vo V_c2 W976) W990) W996), (vo (vo (vo V_c3 W976) W990) W996), (vo (vo (vo V_c4 W976) W990) W996), (xw W996 E_c5), (Fld.other W996 (fo W990 F_c5_wins) (Or.inr (slot_ne (Or.inr (w16 hw)) (Or.inl (w136 hw)) (by decide) (t := (.array .int)) (t' := .int) (by decide) (by decide)))), (Fld.other W996 (fo W990 (fo W976 F_c5_draws)) (Or.inr (slot_ne (Or.inr (w18 hw)) (Or.inl (w136 hw)) (by decide) (t := (.array .int)) (t' := .int) (by decide) (by decide)))), (Fld.other W996 (fo W990 (fo W976 F_c5_losses)) (Or.inr (slot_ne (Or.inr (w20 hw)) (Or.inl (w136 hw)) (by decide) (t := (.array .int)) (t' := .int) (by decide) (by decide)))), (Fld.same W996 F_c5_matches), (Fld.other W996 (fo W990 (fo W976 F_c5_drawnMatches)) (Or.inr (slot_ne (Or.inl (w143 hw)) (Or.inl (w136 hw)) (by decide) (t := .int) (t' := .int) (by decide) (by decide)))), (vo V990 W996), (vo (vo (vo V_c7 W976) W990) W996), (vo (vo (vo V_c8 W976) W990) W996), (xw W996 (xw W990 (xw W976 E_c9))), (fo W996 (fo W990 (fo W976 F_c9_modCount))), (fo W996 (fo W990 (fo W976 F_c9_elementData))), (fo W996 (fo W990 (fo W976 F_c9_s))), (xw W996 (xw W990 (xw W976 E_e0_))), (xw W996 (xw W990 (xw W976 E_c10))), (vo (vo (vo V_c10 W976) W990) W996), O_c10, (xw W996 (xw W990 (xw W976 E_e1_))), (xw W996 E_c11), (fo W996 (fo W990 (fo W976 F_c11_modCount))), (fo W996 (fo W990 F_c11_elementData)), (fo W996 F_c11_s), (xw W996 (xw W990 E_s_WIN)), (xw W996 (xw W990 (xw W976 E_c12))), (vo (vo V_c12 W990) W996), O_c12, (xw W996 (xw W990 E_s_WIN)), g_c1, lt_c1_c2, lt_c2_c3, lt_c3_c4, lt_c4_c5, lt_c5_c6, lt_c6_c7, lt_c7_c8, lt_c8_c9, lt_c9_c10, lt_c10_c11, lt_c11_c12, od_s_WIN, od_s_LOSS, od_s_DRAW, od_s_SW, od_s_EM, od_e0_, od_e1_, od_s_WIN, od_s_WIN, hv0, hv1, hv2, hv3, he0, he1, (Or.inl ⟨rfl, rfl⟩), (Or.inl ⟨rfl, rfl⟩)⟩) (by decide) (by decide)
  · refine aN X0 hx (hb Y d12_0) rfl rfl <| f_face X0 hx hZ hO (by rw [hml]; rfl) (xi := yl13) (y := y13) (w91 hw) (w92 hw) (mvT hZ (w93 hw)) (w94 hw) (w95 hw) (w96 hw) (w97 hw) (w98 hw) (w23 hw) (w99 hw) e0 E_c11 (argsL := []) (rest := []) (q580 l Z a0 hw [] h0 n0 c11 F_c11_s) (lenOf pd9 rfl) (hb Y d12_1) fun T997 L997 v997 X997 hQ997 => ?_
    obtain ⟨rfl, N997q, e997⟩ := hQ997
    have N997 := Fr.app N0 N997q
    refine aN X997 hx (hb Y d12_6) rfl rfl <| gF X997 hx hZ hO (w15 hw) Via.refl e997 F_c5_wins (hb Y d12_7) fun T999 X999 e999 => ?_
    refine f_len X999 hx hZ e999 V_c6 (hb Y d12_10) <| cY X999 hx (pc := 11) 38 (hb Y d12_11) <| iK X999 hx (z := 0) (hb Y d12_38) <| sN X999 hx (L' := #[(rv c5), (rv c11), (iv 0), .unset]) (hb Y d12_39) rfl <| iK X999 hx (z := 0) (hb Y d12_40) <| sN X999 hx (L' := #[(rv c5), (rv c11), (iv 0), (iv 0)]) (hb Y d12_41) rfl <| iN X999 hx (hb Y d12_42) rfl <| aN X999 hx (hb Y d12_43) rfl rfl <| f_face X999 hx hZ hO (by rw [hml]; rfl) (xi := yl13) (y := y13) (w91 hw) (w92 hw) (mvT hZ (w93 hw)) (w94 hw) (w95 hw) (w96 hw) (w97 hw) (w98 hw) (w23 hw) (w99 hw) e999 E_c11 (argsL := []) (rest := [(.int 0)]) (q580 l Z a0 hw [] h0 n0 c11 F_c11_s) (lenOf pd9 rfl) (hb Y d12_44) fun T1000 L1000 v1000 X1000 hQ1000 => ?_
    obtain ⟨rfl, N1000q, e1000⟩ := hQ1000
    have N1000 := Fr.app N997 N1000q
    refine cN X1000 hx (hb Y d12_49) <| f_getS X1000 hx hZ hO (w100 hw) e1000 S__SwitchMap_com_example_g (hb Y d12_52) fun T1002 X1002 e1002 => ?_
    refine aN X1002 hx (hb Y d12_55) rfl rfl <| iN X1002 hx (hb Y d12_56) rfl <| f_face X1002 hx hZ hO (by rw [hml]; rfl) (xi := yl18) (y := y14) (w103 hw) (w104 hw) (mvT hZ (w105 hw)) (w106 hw) (w107 hw) (w108 hw) (w109 hw) (w98 hw) (w23 hw) (w110 hw) e1002 E_c11 (argsL := [(.int 0)]) (rest := [(.ref s_SW)]) (q638 l Z a0 hw [] h0 n0 c11 c12 kc8 s_WIN s_LOSS F_c11_s F_c11_elementData V_c12 E_c11) (lenOf pd11 rfl) (hb Y d12_57) fun T1003 L1003 v1003 X1003 hQ1003 => ?_
    obtain ⟨rfl, N1003q, e1003⟩ := hQ1003
    have N1003 := Fr.app N1000 N1003q
    refine f_cast1 X1003 hx hZ hO (w124 hw) e1003 (Ins.self E_s_WIN) (hb Y d12_62) fun T1009 X1009 e1009 => ?_
    refine f_up X1009 hx hZ hO (by rw [hml]; rfl) (xi := yl20) (y := y18) (owner := "java/lang/Enum") (w126 hw) (w127 hw) (w128 hw) (w130 hw) (w129 hw) (w131 hw) (w132 hw) e1009 E_s_WIN (argsL := []) (rest := [(.ref s_SW)]) (q598 l Z a0 hw [] h0 n0 s_WIN F_s_WIN_ordinal) (lenOf pd9 rfl) (hb Y d12_65) fun T1010 L1010 v1010 X1010 hQ1010 => ?_
    obtain ⟨rfl, N1010q, e1010⟩ := hQ1010
    have N1010 := Fr.app N1003 N1010q
    refine f_iald X1010 hx hZ e1010 V_s_SW (v := (.int 1)) rfl (hb Y d12_68) <| f_tsw X1010 hx (o := 27) (pc := 69) 96 (hb Y d12_69) (by decide +kernel) (by decide +kernel) <| aN X1010 hx (hb Y d12_96) rfl rfl <| gF X1010 hx hZ hO (w15 hw) Via.refl e1010 F_c5_wins (hb Y d12_97) fun T1012 X1012 e1012 => ?_
    refine iN X1012 hx (hb Y d12_100) rfl <| f_dup2 X1012 hx (hb Y d12_101) rfl rfl <| f_iald X1012 hx hZ e1012 V_c6 (v := (.int n11_)) rfl (hb Y d12_102) <| iK X1012 hx (z := 1) (hb Y d12_103) <| iA X1012 hx (z := (n11_ + (1 : Int32))) (hb Y d12_104) (q := rfl) <| f_ist X1012 hx hZ e1012 V_c6 0 (hb Y d12_105) fun T1013 h1013 X1013 e1013 W1013 V1013 => ?_
    have N1013x := Fr.snoc X1013 N1010 (by omega : n0 ≤ c6)
    refine gT X1013 hx (pc := 106) 135 (hb Y d12_106) <| f_iinc X1013 hx (L' := #[(rv c5), (rv c11), (iv 0), (iv 1)]) (hb Y d12_135) rfl rfl <| gT X1013 hx (pc := 138) 42 (hb Y d12_138) <| iN X1013 hx (hb Y d12_42) rfl <| aN X1013 hx (hb Y d12_43) rfl rfl ?_
    replace F_c11_s := (fo W1013 F_c11_s)
    replace E_c11 := (xw W1013 E_c11)
    refine f_face X1013 hx hZ hO (by rw [hml]; rfl) (xi := yl13) (y := y13) (w91 hw) (w92 hw) (mvT hZ (w93 hw)) (w94 hw) (w95 hw) (w96 hw) (w97 hw) (w98 hw) (w23 hw) (w99 hw) e1013 E_c11 (argsL := []) (rest := [(.int 1)]) (q580 l Z a0 hw [] h1013 n0 c11 F_c11_s) (lenOf pd9 rfl) (hb Y d12_44) fun T1014 L1014 v1014 X1014 hQ1014 => ?_
    obtain ⟨rfl, N1014q, e1014⟩ := hQ1014
    have N1014 := Fr.app N1013x N1014q
    refine cN X1014 hx (hb Y d12_49) ?_
    replace S__SwitchMap_com_example_g := (Sta.wr W1013 S__SwitchMap_com_example_g)
    refine f_getS X1014 hx hZ hO (w100 hw) e1014 S__SwitchMap_com_example_g (hb Y d12_52) fun T1016 X1016 e1016 => ?_
    refine aN X1016 hx (hb Y d12_55) rfl rfl <| iN X1016 hx (hb Y d12_56) rfl ?_
    replace F_c11_elementData := (fo W1013 F_c11_elementData)
    replace V_c12 := (vo V_c12 W1013)
    refine f_face X1016 hx hZ hO (by rw [hml]; rfl) (xi := yl18) (y := y14) (w103 hw) (w104 hw) (mvT hZ (w105 hw)) (w106 hw) (w107 hw) (w108 hw) (w109 hw) (w98 hw) (w23 hw) (w110 hw) e1016 E_c11 (argsL := [(.int 1)]) (rest := [(.ref s_SW)]) (q654 l Z a0 hw [] h1013 n0 c11 c12 kc8 s_WIN s_LOSS F_c11_s F_c11_elementData V_c12 E_c11) (lenOf pd11 rfl) (hb Y d12_57) fun T1017 L1017 v1017 X1017 hQ1017 => ?_
    obtain ⟨rfl, N1017q, e1017⟩ := hQ1017
    have N1017 := Fr.app N1014 N1017q
    replace E_s_LOSS := (xw W1013 E_s_LOSS)
    refine f_cast1 X1017 hx hZ hO (w124 hw) e1017 (Ins.self E_s_LOSS) (hb Y d12_62) fun T1023 X1023 e1023 => ?_
    replace F_s_LOSS_ordinal := (fo W1013 F_s_LOSS_ordinal)
    refine f_up X1023 hx hZ hO (by rw [hml]; rfl) (xi := yl20) (y := y18) (owner := "java/lang/Enum") (w126 hw) (w127 hw) (w128 hw) (w130 hw) (w129 hw) (w131 hw) (w132 hw) e1023 E_s_LOSS (argsL := []) (rest := [(.ref s_SW)]) (q658 l Z a0 hw [] h1013 n0 s_LOSS F_s_LOSS_ordinal) (lenOf pd9 rfl) (hb Y d12_65) fun T1024 L1024 v1024 X1024 hQ1024 => ?_
    obtain ⟨rfl, N1024q, e1024⟩ := hQ1024
    have N1024 := Fr.app N1017 N1024q
    replace V_s_SW := (vo V_s_SW W1013)
    refine f_iald X1024 hx hZ e1024 V_s_SW (v := (.int 3)) rfl (hb Y d12_68) <| f_tsw X1024 hx (o := 56) (pc := 69) 125 (hb Y d12_69) (by decide +kernel) (by decide +kernel) <| aN X1024 hx (hb Y d12_125) rfl rfl ?_
    replace F_c5_losses := (fo W1013 F_c5_losses)
    refine gF X1024 hx hZ hO (w19 hw) Via.refl e1024 F_c5_losses (hb Y d12_126) fun T1026 X1026 e1026 => ?_
    refine iN X1026 hx (hb Y d12_129) rfl <| f_dup2 X1026 hx (hb Y d12_130) rfl rfl ?_
    replace V_c8 := (vo V_c8 W1013)
    refine f_iald X1026 hx hZ e1026 V_c8 (v := (.int n16_)) rfl (hb Y d12_131) <| iK X1026 hx (z := 1) (hb Y d12_132) <| iA X1026 hx (z := (n16_ + (1 : Int32))) (hb Y d12_133) (q := rfl) <| f_ist X1026 hx hZ e1026 V_c8 1 (hb Y d12_134) fun T1027 h1027 X1027 e1027 W1027 V1027 => ?_
    have N1027x := Fr.snoc X1027 N1024 (by omega : n0 ≤ c8)
    refine f_iinc X1027 hx (L' := #[(rv c5), (rv c11), (iv 0), (iv 2)]) (hb Y d12_135) rfl rfl <| gT X1027 hx (pc := 138) 42 (hb Y d12_138) <| iN X1027 hx (hb Y d12_42) rfl <| aN X1027 hx (hb Y d12_43) rfl rfl ?_
    replace F_c11_s := (fo W1027 F_c11_s)
    replace E_c11 := (xw W1027 E_c11)
    refine f_face X1027 hx hZ hO (by rw [hml]; rfl) (xi := yl13) (y := y13) (w91 hw) (w92 hw) (mvT hZ (w93 hw)) (w94 hw) (w95 hw) (w96 hw) (w97 hw) (w98 hw) (w23 hw) (w99 hw) e1027 E_c11 (argsL := []) (rest := [(.int 2)]) (q580 l Z a0 hw [] h1027 n0 c11 F_c11_s) (lenOf pd9 rfl) (hb Y d12_44) fun T1028 L1028 v1028 X1028 hQ1028 => ?_
    obtain ⟨rfl, N1028q, e1028⟩ := hQ1028
    have N1028 := Fr.app N1027x N1028q
    refine cY X1028 hx (pc := 49) 141 (hb Y d12_49) <| iN X1028 hx (hb Y d12_141) rfl <| aN X1028 hx (hb Y d12_142) rfl rfl <| f_face X1028 hx hZ hO (by rw [hml]; rfl) (xi := yl13) (y := y13) (w91 hw) (w92 hw) (mvT hZ (w93 hw)) (w94 hw) (w95 hw) (w96 hw) (w97 hw) (w98 hw) (w23 hw) (w99 hw) e1028 E_c11 (argsL := []) (rest := [(.int 0)]) (q580 l Z a0 hw [] h1027 n0 c11 F_c11_s) (lenOf pd9 rfl) (hb Y d12_143) fun T1030 L1030 v1030 X1030 hQ1030 => ?_
    obtain ⟨rfl, N1030q, e1030⟩ := hQ1030
    have N1030 := Fr.app N1028 N1030q
    refine cY X1030 hx (pc := 148) 161 (hb Y d12_148) <| aN X1030 hx (hb Y d12_161) rfl rfl <| f_dup X1030 hx (hb Y d12_162) rfl ?_
    replace F_c5_matches := (fo W1027 (fo W1013 F_c5_matches))
    refine gF X1030 hx hZ hO (w135 hw) Via.refl e1030 F_c5_matches (hb Y d12_163) fun T1032 X1032 e1032 => ?_
    refine iK X1032 hx (z := 1) (hb Y d12_166) <| iA X1032 hx (z := (n9_ + (1 : Int32))) (hb Y d12_167) (q := rfl) ?_
    replace E_c5 := (xw W1027 (xw W1013 E_c5))
    refine f_putF X1032 hx hZ hO (w135 hw) Via.refl e1032 F_c5_matches E_c5 (Or.inl (w136 hw)) (w6 hw) (ty := .int) (by decide) rfl rfl (hb Y d12_168) fun T1033 h1033 X1033 e1033 W1033 => ?_
    have N1033x := Fr.snoc X1033 N1030 (by omega : n0 ≤ c5)
    exact f_ret0 X1033 hx hlk hret (hb Y d12_171) (QQ := _) (by rw [e1033]; exact ⟨rfl, N1033x, (Sta.wr W1033 (Sta.wr W1027 (Sta.wr W1013 S_WIN))), (Sta.wr W1033 (Sta.wr W1027 (Sta.wr W1013 S_LOSS))), (Sta.wr W1033 (Sta.wr W1027 (Sta.wr W1013 S_DRAW))), (Sta.wr W1033 (Sta.wr W1027 S__SwitchMap_com_example_g)), (Sta.wr W1033 (Sta.wr W1027 (Sta.wr W1013 S_DEFAULTCAPACITY_EMPTY_EL))), (xw W1033 (xw W1027 (xw W1013 E_s_WIN))), (fo W1033 (fo W1027 (fo W1013 F_s_WIN_ordinal))), (xw W1033 (xw W1027 E_s_LOSS)), (fo W1033 (fo W1027 F_s_LOSS_ordinal)), (xw W1033 (xw W1027 (xw W1013 E_s_DRAW))), (fo W1033 (fo W1027 (fo W1013 F_s_DRAW_ordinal))), (vo (vo V_s_SW W1027) W1033), (vo (vo (vo V_s_EM W1013) W1027) W1033), (xw W1033 (xw W1027 (xw W1013 E_c1))), (fo W1033 (fo W1027 (fo W1013 F_c1_wins))), (fo W1033 (fo W1027 (fo W1013 F_c1_draws))), (fo W1033 (fo W1027 (fo W1013 F_c1_losses))), (fo W1033 (fo W1027 (fo W1013 F_c1_matches))), (fo W1033 (fo W1027 (fo W1013 F_c1_drawnMatches))), (vo (vo (vo V_c2 W1013) W1027) W1033), (vo (vo (vo V_c3 W1013) W1027) W1033), (vo (vo (vo V_c4 W1013) W1027) W1033), (xw W1033 E_c5), (Fld.other W1033 (fo W1027 (fo W1013 F_c5_wins)) (Or.inr (slot_ne (Or.inr (w16 hw)) (Or.inl (w136 hw)) (by decide) (t := (.array .int)) (t' := .int) (by decide) (by decide)))), (Fld.other W1033 (fo W1027 (fo W1013 F_c5_draws)) (Or.inr (slot_ne (Or.inr (w18 hw)) (Or.inl (w136 hw)) (by decide) (t := (.array .int)) (t' := .int) (by decide) (by decide)))), (Fld.other W1033 (fo W1027 F_c5_losses) (Or.inr (slot_ne (Or.inr (w20 hw)) (Or.inl (w136 hw)) (by decide) (t := (.array .int)) (t' := .int) (by decide) (by decide)))), (Fld.same W1033 F_c5_matches), (Fld.other W1033 (fo W1027 (fo W1013 F_c5_drawnMatches)) (Or.inr (slot_ne (Or.inl (w143 hw)) (Or.inl (w136 hw)) (by decide) (t := .int) (t' := .int) (by decide) (by decide)))), (vo (vo V1013 W1027) W1033), (vo (vo (vo V_c7 W1013) W1027) W1033), (vo V1027 W1033), (xw W1033 (xw W1027 (xw W1013 E_c9))), (fo W1033 (fo W1027 (fo W1013 F_c9_modCount))), (fo W1033 (fo W1027 (fo W1013 F_c9_elementData))), (fo W1033 (fo W1027 (fo W1013 F_c9_s))), (xw W1033 (xw W1027 (xw W1013 E_e0_))), (xw W1033 (xw W1027 (xw W1013 E_c10))), (vo (vo (vo V_c10 W1013) W1027) W1033), O_c10, (xw W1033 (xw W1027 (xw W1013 E_e1_))), (xw W1033 E_c11), (fo W1033 (fo W1027 (fo W1013 F_c11_modCount))), (fo W1033 (fo W1027 F_c11_elementData)), (fo W1033 F_c11_s), (xw W1033 (xw W1027 (xw W1013 E_s_WIN))), (xw W1033 (xw W1027 (xw W1013 E_c12))), (vo (vo V_c12 W1027) W1033), O_c12, (xw W1033 (xw W1027 E_s_LOSS)), g_c1, lt_c1_c2, lt_c2_c3, lt_c3_c4, lt_c4_c5, lt_c5_c6, lt_c6_c7, lt_c7_c8, lt_c8_c9, lt_c9_c10, lt_c10_c11, lt_c11_c12, od_s_WIN, od_s_LOSS, od_s_DRAW, od_s_SW, od_s_EM, od_e0_, od_e1_, od_s_WIN, od_s_LOSS, hv0, hv1, hv2, hv3, he0, he1, (Or.inl ⟨rfl, rfl⟩), (Or.inr (Or.inl ⟨rfl, rfl⟩))⟩) (by decide) (by decide)
  · refine aN X0 hx (hb Y d12_0) rfl rfl <| f_face X0 hx hZ hO (by rw [hml]; rfl) (xi := yl13) (y := y13) (w91 hw) (w92 hw) (mvT hZ (w93 hw)) (w94 hw) (w95 hw) (w96 hw) (w97 hw) (w98 hw) (w23 hw) (w99 hw) e0 E_c11 (argsL := []) (rest := []) (q580 l Z a0 hw [] h0 n0 c11 F_c11_s) (lenOf pd9 rfl) (hb Y d12_1) fun T1034 L1034 v1034 X1034 hQ1034 => ?_
    obtain ⟨rfl, N1034q, e1034⟩ := hQ1034
    have N1034 := Fr.app N0 N1034q
    refine aN X1034 hx (hb Y d12_6) rfl rfl <| gF X1034 hx hZ hO (w15 hw) Via.refl e1034 F_c5_wins (hb Y d12_7) fun T1036 X1036 e1036 => ?_
    refine f_len X1036 hx hZ e1036 V_c6 (hb Y d12_10) <| cY X1036 hx (pc := 11) 38 (hb Y d12_11) <| iK X1036 hx (z := 0) (hb Y d12_38) <| sN X1036 hx (L' := #[(rv c5), (rv c11), (iv 0), .unset]) (hb Y d12_39) rfl <| iK X1036 hx (z := 0) (hb Y d12_40) <| sN X1036 hx (L' := #[(rv c5), (rv c11), (iv 0), (iv 0)]) (hb Y d12_41) rfl <| iN X1036 hx (hb Y d12_42) rfl <| aN X1036 hx (hb Y d12_43) rfl rfl <| f_face X1036 hx hZ hO (by rw [hml]; rfl) (xi := yl13) (y := y13) (w91 hw) (w92 hw) (mvT hZ (w93 hw)) (w94 hw) (w95 hw) (w96 hw) (w97 hw) (w98 hw) (w23 hw) (w99 hw) e1036 E_c11 (argsL := []) (rest := [(.int 0)]) (q580 l Z a0 hw [] h0 n0 c11 F_c11_s) (lenOf pd9 rfl) (hb Y d12_44) fun T1037 L1037 v1037 X1037 hQ1037 => ?_
    obtain ⟨rfl, N1037q, e1037⟩ := hQ1037
    have N1037 := Fr.app N1034 N1037q
    refine cN X1037 hx (hb Y d12_49) <| f_getS X1037 hx hZ hO (w100 hw) e1037 S__SwitchMap_com_example_g (hb Y d12_52) fun T1039 X1039 e1039 => ?_
    refine aN X1039 hx (hb Y d12_55) rfl rfl <| iN X1039 hx (hb Y d12_56) rfl <| f_face X1039 hx hZ hO (by rw [hml]; rfl) (xi := yl18) (y := y14) (w103 hw) (w104 hw) (mvT hZ (w105 hw)) (w106 hw) (w107 hw) (w108 hw) (w109 hw) (w98 hw) (w23 hw) (w110 hw) e1039 E_c11 (argsL := [(.int 0)]) (rest := [(.ref s_SW)]) (q680 l Z a0 hw [] h0 n0 c11 c12 kc8 s_WIN s_DRAW F_c11_s F_c11_elementData V_c12 E_c11) (lenOf pd11 rfl) (hb Y d12_57) fun T1040 L1040 v1040 X1040 hQ1040 => ?_
    obtain ⟨rfl, N1040q, e1040⟩ := hQ1040
    have N1040 := Fr.app N1037 N1040q
    refine f_cast1 X1040 hx hZ hO (w124 hw) e1040 (Ins.self E_s_WIN) (hb Y d12_62) fun T1046 X1046 e1046 => ?_
    refine f_up X1046 hx hZ hO (by rw [hml]; rfl) (xi := yl20) (y := y18) (owner := "java/lang/Enum") (w126 hw) (w127 hw) (w128 hw) (w130 hw) (w129 hw) (w131 hw) (w132 hw) e1046 E_s_WIN (argsL := []) (rest := [(.ref s_SW)]) (q598 l Z a0 hw [] h0 n0 s_WIN F_s_WIN_ordinal) (lenOf pd9 rfl) (hb Y d12_65) fun T1047 L1047 v1047 X1047 hQ1047 => ?_
    obtain ⟨rfl, N1047q, e1047⟩ := hQ1047
    have N1047 := Fr.app N1040 N1047q
    refine f_iald X1047 hx hZ e1047 V_s_SW (v := (.int 1)) rfl (hb Y d12_68) <| f_tsw X1047 hx (o := 27) (pc := 69) 96 (hb Y d12_69) (by decide +kernel) (by decide +kernel) <| aN X1047 hx (hb Y d12_96) rfl rfl <| gF X1047 hx hZ hO (w15 hw) Via.refl e1047 F_c5_wins (hb Y d12_97) fun T1049 X1049 e1049 => ?_
    refine iN X1049 hx (hb Y d12_100) rfl <| f_dup2 X1049 hx (hb Y d12_101) rfl rfl <| f_iald X1049 hx hZ e1049 V_c6 (v := (.int n11_)) rfl (hb Y d12_102) <| iK X1049 hx (z := 1) (hb Y d12_103) <| iA X1049 hx (z := (n11_ + (1 : Int32))) (hb Y d12_104) (q := rfl) <| f_ist X1049 hx hZ e1049 V_c6 0 (hb Y d12_105) fun T1050 h1050 X1050 e1050 W1050 V1050 => ?_
    have N1050x := Fr.snoc X1050 N1047 (by omega : n0 ≤ c6)
    refine gT X1050 hx (pc := 106) 135 (hb Y d12_106) <| f_iinc X1050 hx (L' := #[(rv c5), (rv c11), (iv 0), (iv 1)]) (hb Y d12_135) rfl rfl <| gT X1050 hx (pc := 138) 42 (hb Y d12_138) <| iN X1050 hx (hb Y d12_42) rfl <| aN X1050 hx (hb Y d12_43) rfl rfl ?_
    replace F_c11_s := (fo W1050 F_c11_s)
    replace E_c11 := (xw W1050 E_c11)
    refine f_face X1050 hx hZ hO (by rw [hml]; rfl) (xi := yl13) (y := y13) (w91 hw) (w92 hw) (mvT hZ (w93 hw)) (w94 hw) (w95 hw) (w96 hw) (w97 hw) (w98 hw) (w23 hw) (w99 hw) e1050 E_c11 (argsL := []) (rest := [(.int 1)]) (q580 l Z a0 hw [] h1050 n0 c11 F_c11_s) (lenOf pd9 rfl) (hb Y d12_44) fun T1051 L1051 v1051 X1051 hQ1051 => ?_
    obtain ⟨rfl, N1051q, e1051⟩ := hQ1051
    have N1051 := Fr.app N1050x N1051q
    refine cN X1051 hx (hb Y d12_49) ?_
    replace S__SwitchMap_com_example_g := (Sta.wr W1050 S__SwitchMap_com_example_g)
    refine f_getS X1051 hx hZ hO (w100 hw) e1051 S__SwitchMap_com_example_g (hb Y d12_52) fun T1053 X1053 e1053 => ?_
    refine aN X1053 hx (hb Y d12_55) rfl rfl <| iN X1053 hx (hb Y d12_56) rfl ?_
    replace F_c11_elementData := (fo W1050 F_c11_elementData)
    replace V_c12 := (vo V_c12 W1050)
    refine f_face X1053 hx hZ hO (by rw [hml]; rfl) (xi := yl18) (y := y14) (w103 hw) (w104 hw) (mvT hZ (w105 hw)) (w106 hw) (w107 hw) (w108 hw) (w109 hw) (w98 hw) (w23 hw) (w110 hw) e1053 E_c11 (argsL := [(.int 1)]) (rest := [(.ref s_SW)]) (q696 l Z a0 hw [] h1050 n0 c11 c12 kc8 s_WIN s_DRAW F_c11_s F_c11_elementData V_c12 E_c11) (lenOf pd11 rfl) (hb Y d12_57) fun T1054 L1054 v1054 X1054 hQ1054 => ?_
    obtain ⟨rfl, N1054q, e1054⟩ := hQ1054
    have N1054 := Fr.app N1051 N1054q
    replace E_s_DRAW := (xw W1050 E_s_DRAW)
    refine f_cast1 X1054 hx hZ hO (w124 hw) e1054 (Ins.self E_s_DRAW) (hb Y d12_62) fun T1060 X1060 e1060 => ?_
    replace F_s_DRAW_ordinal := (fo W1050 F_s_DRAW_ordinal)
    refine f_up X1060 hx hZ hO (by rw [hml]; rfl) (xi := yl20) (y := y18) (owner := "java/lang/Enum") (w126 hw) (w127 hw) (w128 hw) (w130 hw) (w129 hw) (w131 hw) (w132 hw) e1060 E_s_DRAW (argsL := []) (rest := [(.ref s_SW)]) (q700 l Z a0 hw [] h1050 n0 s_DRAW F_s_DRAW_ordinal) (lenOf pd9 rfl) (hb Y d12_65) fun T1061 L1061 v1061 X1061 hQ1061 => ?_
    obtain ⟨rfl, N1061q, e1061⟩ := hQ1061
    have N1061 := Fr.app N1054 N1061q
    replace V_s_SW := (vo V_s_SW W1050)
    refine f_iald X1061 hx hZ e1061 V_s_SW (v := (.int 2)) rfl (hb Y d12_68) <| f_tsw X1061 hx (o := 40) (pc := 69) 109 (hb Y d12_69) (by decide +kernel) (by decide +kernel) <| aN X1061 hx (hb Y d12_109) rfl rfl ?_
    replace F_c5_draws := (fo W1050 F_c5_draws)
    refine gF X1061 hx hZ hO (w17 hw) Via.refl e1061 F_c5_draws (hb Y d12_110) fun T1063 X1063 e1063 => ?_
    refine iN X1063 hx (hb Y d12_113) rfl <| f_dup2 X1063 hx (hb Y d12_114) rfl rfl ?_
    replace V_c7 := (vo V_c7 W1050)
    refine f_iald X1063 hx hZ e1063 V_c7 (v := (.int n14_)) rfl (hb Y d12_115) <| iK X1063 hx (z := 1) (hb Y d12_116) <| iA X1063 hx (z := (n14_ + (1 : Int32))) (hb Y d12_117) (q := rfl) <| f_ist X1063 hx hZ e1063 V_c7 1 (hb Y d12_118) fun T1064 h1064 X1064 e1064 W1064 V1064 => ?_
    have N1064x := Fr.snoc X1064 N1061 (by omega : n0 ≤ c7)
    refine f_iinc X1064 hx (L' := #[(rv c5), (rv c11), (iv 1), (iv 1)]) (hb Y d12_119) rfl rfl <| gT X1064 hx (pc := 122) 135 (hb Y d12_122) <| f_iinc X1064 hx (L' := #[(rv c5), (rv c11), (iv 1), (iv 2)]) (hb Y d12_135) rfl rfl <| gT X1064 hx (pc := 138) 42 (hb Y d12_138) <| iN X1064 hx (hb Y d12_42) rfl <| aN X1064 hx (hb Y d12_43) rfl rfl ?_
    replace F_c11_s := (fo W1064 F_c11_s)
    replace E_c11 := (xw W1064 E_c11)
    refine f_face X1064 hx hZ hO (by rw [hml]; rfl) (xi := yl13) (y := y13) (w91 hw) (w92 hw) (mvT hZ (w93 hw)) (w94 hw) (w95 hw) (w96 hw) (w97 hw) (w98 hw) (w23 hw) (w99 hw) e1064 E_c11 (argsL := []) (rest := [(.int 2)]) (q580 l Z a0 hw [] h1064 n0 c11 F_c11_s) (lenOf pd9 rfl) (hb Y d12_44) fun T1065 L1065 v1065 X1065 hQ1065 => ?_
    obtain ⟨rfl, N1065q, e1065⟩ := hQ1065
    have N1065 := Fr.app N1064x N1065q
    refine cY X1065 hx (pc := 49) 141 (hb Y d12_49) <| iN X1065 hx (hb Y d12_141) rfl <| aN X1065 hx (hb Y d12_142) rfl rfl <| f_face X1065 hx hZ hO (by rw [hml]; rfl) (xi := yl13) (y := y13) (w91 hw) (w92 hw) (mvT hZ (w93 hw)) (w94 hw) (w95 hw) (w96 hw) (w97 hw) (w98 hw) (w23 hw) (w99 hw) e1065 E_c11 (argsL := []) (rest := [(.int 1)]) (q580 l Z a0 hw [] h1064 n0 c11 F_c11_s) (lenOf pd9 rfl) (hb Y d12_143) fun T1067 L1067 v1067 X1067 hQ1067 => ?_
    obtain ⟨rfl, N1067q, e1067⟩ := hQ1067
    have N1067 := Fr.app N1065 N1067q
    refine cY X1067 hx (pc := 148) 161 (hb Y d12_148) <| aN X1067 hx (hb Y d12_161) rfl rfl <| f_dup X1067 hx (hb Y d12_162) rfl ?_
    replace F_c5_matches := (fo W1064 (fo W1050 F_c5_matches))
    refine gF X1067 hx hZ hO (w135 hw) Via.refl e1067 F_c5_matches (hb Y d12_163) fun T1069 X1069 e1069 => ?_
    refine iK X1069 hx (z := 1) (hb Y d12_166) <| iA X1069 hx (z := (n9_ + (1 : Int32))) (hb Y d12_167) (q := rfl) ?_
    replace E_c5 := (xw W1064 (xw W1050 E_c5))
    refine f_putF X1069 hx hZ hO (w135 hw) Via.refl e1069 F_c5_matches E_c5 (Or.inl (w136 hw)) (w6 hw) (ty := .int) (by decide) rfl rfl (hb Y d12_168) fun T1070 h1070 X1070 e1070 W1070 => ?_
    have N1070x := Fr.snoc X1070 N1067 (by omega : n0 ≤ c5)
    exact f_ret0 X1070 hx hlk hret (hb Y d12_171) (QQ := _) (by rw [e1070]; exact ⟨rfl, N1070x, (Sta.wr W1070 (Sta.wr W1064 (Sta.wr W1050 S_WIN))), (Sta.wr W1070 (Sta.wr W1064 (Sta.wr W1050 S_LOSS))), (Sta.wr W1070 (Sta.wr W1064 (Sta.wr W1050 S_DRAW))), (Sta.wr W1070 (Sta.wr W1064 S__SwitchMap_com_example_g)), (Sta.wr W1070 (Sta.wr W1064 (Sta.wr W1050 S_DEFAULTCAPACITY_EMPTY_EL))), (xw W1070 (xw W1064 (xw W1050 E_s_WIN))), (fo W1070 (fo W1064 (fo W1050 F_s_WIN_ordinal))), (xw W1070 (xw W1064 (xw W1050 E_s_LOSS))), (fo W1070 (fo W1064 (fo W1050 F_s_LOSS_ordinal))), (xw W1070 (xw W1064 E_s_DRAW)), (fo W1070 (fo W1064 F_s_DRAW_ordinal)), (vo (vo V_s_SW W1064) W1070), (vo (vo (vo V_s_EM W1050) W1064) W1070), (xw W1070 (xw W1064 (xw W1050 E_c1))), (fo W1070 (fo W1064 (fo W1050 F_c1_wins))), (fo W1070 (fo W1064 (fo W1050 F_c1_draws))), (fo W1070 (fo W1064 (fo W1050 F_c1_losses))), (fo W1070 (fo W1064 (fo W1050 F_c1_matches))), (fo W1070 (fo W1064 (fo W1050 F_c1_drawnMatches))), (vo (vo (vo V_c2 W1050) W1064) W1070), (vo (vo (vo V_c3 W1050) W1064) W1070), (vo (vo (vo V_c4 W1050) W1064) W1070), (xw W1070 E_c5), (Fld.other W1070 (fo W1064 (fo W1050 F_c5_wins)) (Or.inr (slot_ne (Or.inr (w16 hw)) (Or.inl (w136 hw)) (by decide) (t := (.array .int)) (t' := .int) (by decide) (by decide)))), (Fld.other W1070 (fo W1064 F_c5_draws) (Or.inr (slot_ne (Or.inr (w18 hw)) (Or.inl (w136 hw)) (by decide) (t := (.array .int)) (t' := .int) (by decide) (by decide)))), (Fld.other W1070 (fo W1064 (fo W1050 F_c5_losses)) (Or.inr (slot_ne (Or.inr (w20 hw)) (Or.inl (w136 hw)) (by decide) (t := (.array .int)) (t' := .int) (by decide) (by decide)))), (Fld.same W1070 F_c5_matches), (Fld.other W1070 (fo W1064 (fo W1050 F_c5_drawnMatches)) (Or.inr (slot_ne (Or.inl (w143 hw)) (Or.inl (w136 hw)) (by decide) (t := .int) (t' := .int) (by decide) (by decide)))), (vo (vo V1050 W1064) W1070), (vo V1064 W1070), (vo (vo (vo V_c8 W1050) W1064) W1070), (xw W1070 (xw W1064 (xw W1050 E_c9))), (fo W1070 (fo W1064 (fo W1050 F_c9_modCount))), (fo W1070 (fo W1064 (fo W1050 F_c9_elementData))), (fo W1070 (fo W1064 (fo W1050 F_c9_s))), (xw W1070 (xw W1064 (xw W1050 E_e0_))), (xw W1070 (xw W1064 (xw W1050 E_c10))), (vo (vo (vo V_c10 W1050) W1064) W1070), O_c10, (xw W1070 (xw W1064 (xw W1050 E_e1_))), (xw W1070 E_c11), (fo W1070 (fo W1064 (fo W1050 F_c11_modCount))), (fo W1070 (fo W1064 F_c11_elementData)), (fo W1070 F_c11_s), (xw W1070 (xw W1064 (xw W1050 E_s_WIN))), (xw W1070 (xw W1064 (xw W1050 E_c12))), (vo (vo V_c12 W1064) W1070), O_c12, (xw W1070 (xw W1064 E_s_DRAW)), g_c1, lt_c1_c2, lt_c2_c3, lt_c3_c4, lt_c4_c5, lt_c5_c6, lt_c6_c7, lt_c7_c8, lt_c8_c9, lt_c9_c10, lt_c10_c11, lt_c11_c12, od_s_WIN, od_s_LOSS, od_s_DRAW, od_s_SW, od_s_EM, od_e0_, od_e1_, od_s_WIN, od_s_DRAW, hv0, hv1, hv2, hv3, he0, he1, (Or.inl ⟨rfl, rfl⟩), (Or.inr (Or.inr ⟨rfl, rfl⟩))⟩) (by decide) (by decide)
  · refine aN X0 hx (hb Y d12_0) rfl rfl <| f_face X0 hx hZ hO (by rw [hml]; rfl) (xi := yl13) (y := y13) (w91 hw) (w92 hw) (mvT hZ (w93 hw)) (w94 hw) (w95 hw) (w96 hw) (w97 hw) (w98 hw) (w23 hw) (w99 hw) e0 E_c11 (argsL := []) (rest := []) (q580 l Z a0 hw [] h0 n0 c11 F_c11_s) (lenOf pd9 rfl) (hb Y d12_1) fun T1071 L1071 v1071 X1071 hQ1071 => ?_
    obtain ⟨rfl, N1071q, e1071⟩ := hQ1071
    have N1071 := Fr.app N0 N1071q
    refine aN X1071 hx (hb Y d12_6) rfl rfl <| gF X1071 hx hZ hO (w15 hw) Via.refl e1071 F_c5_wins (hb Y d12_7) fun T1073 X1073 e1073 => ?_
    refine f_len X1073 hx hZ e1073 V_c6 (hb Y d12_10) <| cY X1073 hx (pc := 11) 38 (hb Y d12_11) <| iK X1073 hx (z := 0) (hb Y d12_38) <| sN X1073 hx (L' := #[(rv c5), (rv c11), (iv 0), .unset]) (hb Y d12_39) rfl <| iK X1073 hx (z := 0) (hb Y d12_40) <| sN X1073 hx (L' := #[(rv c5), (rv c11), (iv 0), (iv 0)]) (hb Y d12_41) rfl <| iN X1073 hx (hb Y d12_42) rfl <| aN X1073 hx (hb Y d12_43) rfl rfl <| f_face X1073 hx hZ hO (by rw [hml]; rfl) (xi := yl13) (y := y13) (w91 hw) (w92 hw) (mvT hZ (w93 hw)) (w94 hw) (w95 hw) (w96 hw) (w97 hw) (w98 hw) (w23 hw) (w99 hw) e1073 E_c11 (argsL := []) (rest := [(.int 0)]) (q580 l Z a0 hw [] h0 n0 c11 F_c11_s) (lenOf pd9 rfl) (hb Y d12_44) fun T1074 L1074 v1074 X1074 hQ1074 => ?_
    obtain ⟨rfl, N1074q, e1074⟩ := hQ1074
    have N1074 := Fr.app N1071 N1074q
    refine cN X1074 hx (hb Y d12_49) <| f_getS X1074 hx hZ hO (w100 hw) e1074 S__SwitchMap_com_example_g (hb Y d12_52) fun T1076 X1076 e1076 => ?_
    refine aN X1076 hx (hb Y d12_55) rfl rfl <| iN X1076 hx (hb Y d12_56) rfl <| f_face X1076 hx hZ hO (by rw [hml]; rfl) (xi := yl18) (y := y14) (w103 hw) (w104 hw) (mvT hZ (w105 hw)) (w106 hw) (w107 hw) (w108 hw) (w109 hw) (w98 hw) (w23 hw) (w110 hw) e1076 E_c11 (argsL := [(.int 0)]) (rest := [(.ref s_SW)]) (q722 l Z a0 hw [] h0 n0 c11 c12 kc8 s_LOSS s_WIN F_c11_s F_c11_elementData V_c12 E_c11) (lenOf pd11 rfl) (hb Y d12_57) fun T1077 L1077 v1077 X1077 hQ1077 => ?_
    obtain ⟨rfl, N1077q, e1077⟩ := hQ1077
    have N1077 := Fr.app N1074 N1077q
    refine f_cast1 X1077 hx hZ hO (w124 hw) e1077 (Ins.self E_s_LOSS) (hb Y d12_62) fun T1083 X1083 e1083 => ?_
    refine f_up X1083 hx hZ hO (by rw [hml]; rfl) (xi := yl20) (y := y18) (owner := "java/lang/Enum") (w126 hw) (w127 hw) (w128 hw) (w130 hw) (w129 hw) (w131 hw) (w132 hw) e1083 E_s_LOSS (argsL := []) (rest := [(.ref s_SW)]) (q658 l Z a0 hw [] h0 n0 s_LOSS F_s_LOSS_ordinal) (lenOf pd9 rfl) (hb Y d12_65) fun T1084 L1084 v1084 X1084 hQ1084 => ?_
    obtain ⟨rfl, N1084q, e1084⟩ := hQ1084
    have N1084 := Fr.app N1077 N1084q
    refine f_iald X1084 hx hZ e1084 V_s_SW (v := (.int 3)) rfl (hb Y d12_68) <| f_tsw X1084 hx (o := 56) (pc := 69) 125 (hb Y d12_69) (by decide +kernel) (by decide +kernel) <| aN X1084 hx (hb Y d12_125) rfl rfl <| gF X1084 hx hZ hO (w19 hw) Via.refl e1084 F_c5_losses (hb Y d12_126) fun T1086 X1086 e1086 => ?_
    refine iN X1086 hx (hb Y d12_129) rfl <| f_dup2 X1086 hx (hb Y d12_130) rfl rfl <| f_iald X1086 hx hZ e1086 V_c8 (v := (.int n15_)) rfl (hb Y d12_131) <| iK X1086 hx (z := 1) (hb Y d12_132) <| iA X1086 hx (z := (n15_ + (1 : Int32))) (hb Y d12_133) (q := rfl) <| f_ist X1086 hx hZ e1086 V_c8 0 (hb Y d12_134) fun T1087 h1087 X1087 e1087 W1087 V1087 => ?_
    have N1087x := Fr.snoc X1087 N1084 (by omega : n0 ≤ c8)
    refine f_iinc X1087 hx (L' := #[(rv c5), (rv c11), (iv 0), (iv 1)]) (hb Y d12_135) rfl rfl <| gT X1087 hx (pc := 138) 42 (hb Y d12_138) <| iN X1087 hx (hb Y d12_42) rfl <| aN X1087 hx (hb Y d12_43) rfl rfl ?_
    replace F_c11_s := (fo W1087 F_c11_s)
    replace E_c11 := (xw W1087 E_c11)
    refine f_face X1087 hx hZ hO (by rw [hml]; rfl) (xi := yl13) (y := y13) (w91 hw) (w92 hw) (mvT hZ (w93 hw)) (w94 hw) (w95 hw) (w96 hw) (w97 hw) (w98 hw) (w23 hw) (w99 hw) e1087 E_c11 (argsL := []) (rest := [(.int 1)]) (q580 l Z a0 hw [] h1087 n0 c11 F_c11_s) (lenOf pd9 rfl) (hb Y d12_44) fun T1088 L1088 v1088 X1088 hQ1088 => ?_
    obtain ⟨rfl, N1088q, e1088⟩ := hQ1088
    have N1088 := Fr.app N1087x N1088q
    refine cN X1088 hx (hb Y d12_49) ?_
    replace S__SwitchMap_com_example_g := (Sta.wr W1087 S__SwitchMap_com_example_g)
    refine f_getS X1088 hx hZ hO (w100 hw) e1088 S__SwitchMap_com_example_g (hb Y d12_52) fun T1090 X1090 e1090 => ?_
    refine aN X1090 hx (hb Y d12_55) rfl rfl <| iN X1090 hx (hb Y d12_56) rfl ?_
    replace F_c11_elementData := (fo W1087 F_c11_elementData)
    replace V_c12 := (vo V_c12 W1087)
    refine f_face X1090 hx hZ hO (by rw [hml]; rfl) (xi := yl18) (y := y14) (w103 hw) (w104 hw) (mvT hZ (w105 hw)) (w106 hw) (w107 hw) (w108 hw) (w109 hw) (w98 hw) (w23 hw) (w110 hw) e1090 E_c11 (argsL := [(.int 1)]) (rest := [(.ref s_SW)]) (q738 l Z a0 hw [] h1087 n0 c11 c12 kc8 s_LOSS s_WIN F_c11_s F_c11_elementData V_c12 E_c11) (lenOf pd11 rfl) (hb Y d12_57) fun T1091 L1091 v1091 X1091 hQ1091 => ?_
    obtain ⟨rfl, N1091q, e1091⟩ := hQ1091
    have N1091 := Fr.app N1088 N1091q
    replace E_s_WIN := (xw W1087 E_s_WIN)
    refine f_cast1 X1091 hx hZ hO (w124 hw) e1091 (Ins.self E_s_WIN) (hb Y d12_62) fun T1097 X1097 e1097 => ?_
    replace F_s_WIN_ordinal := (fo W1087 F_s_WIN_ordinal)
    refine f_up X1097 hx hZ hO (by rw [hml]; rfl) (xi := yl20) (y := y18) (owner := "java/lang/Enum") (w126 hw) (w127 hw) (w128 hw) (w130 hw) (w129 hw) (w131 hw) (w132 hw) e1097 E_s_WIN (argsL := []) (rest := [(.ref s_SW)]) (q598 l Z a0 hw [] h1087 n0 s_WIN F_s_WIN_ordinal) (lenOf pd9 rfl) (hb Y d12_65) fun T1098 L1098 v1098 X1098 hQ1098 => ?_
    obtain ⟨rfl, N1098q, e1098⟩ := hQ1098
    have N1098 := Fr.app N1091 N1098q
    replace V_s_SW := (vo V_s_SW W1087)
    refine f_iald X1098 hx hZ e1098 V_s_SW (v := (.int 1)) rfl (hb Y d12_68) <| f_tsw X1098 hx (o := 27) (pc := 69) 96 (hb Y d12_69) (by decide +kernel) (by decide +kernel) <| aN X1098 hx (hb Y d12_96) rfl rfl ?_
    replace F_c5_wins := (fo W1087 F_c5_wins)
    refine gF X1098 hx hZ hO (w15 hw) Via.refl e1098 F_c5_wins (hb Y d12_97) fun T1100 X1100 e1100 => ?_
    refine iN X1100 hx (hb Y d12_100) rfl <| f_dup2 X1100 hx (hb Y d12_101) rfl rfl ?_
    replace V_c6 := (vo V_c6 W1087)
    refine f_iald X1100 hx hZ e1100 V_c6 (v := (.int n12_)) rfl (hb Y d12_102) <| iK X1100 hx (z := 1) (hb Y d12_103) <| iA X1100 hx (z := (n12_ + (1 : Int32))) (hb Y d12_104) (q := rfl) <| f_ist X1100 hx hZ e1100 V_c6 1 (hb Y d12_105) fun T1101 h1101 X1101 e1101 W1101 V1101 => ?_
    have N1101x := Fr.snoc X1101 N1098 (by omega : n0 ≤ c6)
    refine gT X1101 hx (pc := 106) 135 (hb Y d12_106) <| f_iinc X1101 hx (L' := #[(rv c5), (rv c11), (iv 0), (iv 2)]) (hb Y d12_135) rfl rfl <| gT X1101 hx (pc := 138) 42 (hb Y d12_138) <| iN X1101 hx (hb Y d12_42) rfl <| aN X1101 hx (hb Y d12_43) rfl rfl ?_
    replace F_c11_s := (fo W1101 F_c11_s)
    replace E_c11 := (xw W1101 E_c11)
    refine f_face X1101 hx hZ hO (by rw [hml]; rfl) (xi := yl13) (y := y13) (w91 hw) (w92 hw) (mvT hZ (w93 hw)) (w94 hw) (w95 hw) (w96 hw) (w97 hw) (w98 hw) (w23 hw) (w99 hw) e1101 E_c11 (argsL := []) (rest := [(.int 2)]) (q580 l Z a0 hw [] h1101 n0 c11 F_c11_s) (lenOf pd9 rfl) (hb Y d12_44) fun T1102 L1102 v1102 X1102 hQ1102 => ?_
    obtain ⟨rfl, N1102q, e1102⟩ := hQ1102
    have N1102 := Fr.app N1101x N1102q
    refine cY X1102 hx (pc := 49) 141 (hb Y d12_49) <| iN X1102 hx (hb Y d12_141) rfl <| aN X1102 hx (hb Y d12_142) rfl rfl <| f_face X1102 hx hZ hO (by rw [hml]; rfl) (xi := yl13) (y := y13) (w91 hw) (w92 hw) (mvT hZ (w93 hw)) (w94 hw) (w95 hw) (w96 hw) (w97 hw) (w98 hw) (w23 hw) (w99 hw) e1102 E_c11 (argsL := []) (rest := [(.int 0)]) (q580 l Z a0 hw [] h1101 n0 c11 F_c11_s) (lenOf pd9 rfl) (hb Y d12_143) fun T1104 L1104 v1104 X1104 hQ1104 => ?_
    obtain ⟨rfl, N1104q, e1104⟩ := hQ1104
    have N1104 := Fr.app N1102 N1104q
    refine cY X1104 hx (pc := 148) 161 (hb Y d12_148) <| aN X1104 hx (hb Y d12_161) rfl rfl <| f_dup X1104 hx (hb Y d12_162) rfl ?_
    replace F_c5_matches := (fo W1101 (fo W1087 F_c5_matches))
    refine gF X1104 hx hZ hO (w135 hw) Via.refl e1104 F_c5_matches (hb Y d12_163) fun T1106 X1106 e1106 => ?_
    refine iK X1106 hx (z := 1) (hb Y d12_166) <| iA X1106 hx (z := (n9_ + (1 : Int32))) (hb Y d12_167) (q := rfl) ?_
    replace E_c5 := (xw W1101 (xw W1087 E_c5))
    refine f_putF X1106 hx hZ hO (w135 hw) Via.refl e1106 F_c5_matches E_c5 (Or.inl (w136 hw)) (w6 hw) (ty := .int) (by decide) rfl rfl (hb Y d12_168) fun T1107 h1107 X1107 e1107 W1107 => ?_
    have N1107x := Fr.snoc X1107 N1104 (by omega : n0 ≤ c5)
    exact f_ret0 X1107 hx hlk hret (hb Y d12_171) (QQ := _) (by rw [e1107]; exact ⟨rfl, N1107x, (Sta.wr W1107 (Sta.wr W1101 (Sta.wr W1087 S_WIN))), (Sta.wr W1107 (Sta.wr W1101 (Sta.wr W1087 S_LOSS))), (Sta.wr W1107 (Sta.wr W1101 (Sta.wr W1087 S_DRAW))), (Sta.wr W1107 (Sta.wr W1101 S__SwitchMap_com_example_g)), (Sta.wr W1107 (Sta.wr W1101 (Sta.wr W1087 S_DEFAULTCAPACITY_EMPTY_EL))), (xw W1107 (xw W1101 E_s_WIN)), (fo W1107 (fo W1101 F_s_WIN_ordinal)), (xw W1107 (xw W1101 (xw W1087 E_s_LOSS))), (fo W1107 (fo W1101 (fo W1087 F_s_LOSS_ordinal))), (xw W1107 (xw W1101 (xw W1087 E_s_DRAW))), (fo W1107 (fo W1101 (fo W1087 F_s_DRAW_ordinal))), (vo (vo V_s_SW W1101) W1107), (vo (vo (vo V_s_EM W1087) W1101) W1107), (xw W1107 (xw W1101 (xw W1087 E_c1))), (fo W1107 (fo W1101 (fo W1087 F_c1_wins))), (fo W1107 (fo W1101 (fo W1087 F_c1_draws))), (fo W1107 (fo W1101 (fo W1087 F_c1_losses))), (fo W1107 (fo W1101 (fo W1087 F_c1_matches))), (fo W1107 (fo W1101 (fo W1087 F_c1_drawnMatches))), (vo (vo (vo V_c2 W1087) W1101) W1107), (vo (vo (vo V_c3 W1087) W1101) W1107), (vo (vo (vo V_c4 W1087) W1101) W1107), (xw W1107 E_c5), (Fld.other W1107 (fo W1101 F_c5_wins) (Or.inr (slot_ne (Or.inr (w16 hw)) (Or.inl (w136 hw)) (by decide) (t := (.array .int)) (t' := .int) (by decide) (by decide)))), (Fld.other W1107 (fo W1101 (fo W1087 F_c5_draws)) (Or.inr (slot_ne (Or.inr (w18 hw)) (Or.inl (w136 hw)) (by decide) (t := (.array .int)) (t' := .int) (by decide) (by decide)))), (Fld.other W1107 (fo W1101 (fo W1087 F_c5_losses)) (Or.inr (slot_ne (Or.inr (w20 hw)) (Or.inl (w136 hw)) (by decide) (t := (.array .int)) (t' := .int) (by decide) (by decide)))), (Fld.same W1107 F_c5_matches), (Fld.other W1107 (fo W1101 (fo W1087 F_c5_drawnMatches)) (Or.inr (slot_ne (Or.inl (w143 hw)) (Or.inl (w136 hw)) (by decide) (t := .int) (t' := .int) (by decide) (by decide)))), (vo V1101 W1107), (vo (vo (vo V_c7 W1087) W1101) W1107), (vo (vo V1087 W1101) W1107), (xw W1107 (xw W1101 (xw W1087 E_c9))), (fo W1107 (fo W1101 (fo W1087 F_c9_modCount))), (fo W1107 (fo W1101 (fo W1087 F_c9_elementData))), (fo W1107 (fo W1101 (fo W1087 F_c9_s))), (xw W1107 (xw W1101 (xw W1087 E_e0_))), (xw W1107 (xw W1101 (xw W1087 E_c10))), (vo (vo (vo V_c10 W1087) W1101) W1107), O_c10, (xw W1107 (xw W1101 (xw W1087 E_e1_))), (xw W1107 E_c11), (fo W1107 (fo W1101 (fo W1087 F_c11_modCount))), (fo W1107 (fo W1101 F_c11_elementData)), (fo W1107 F_c11_s), (xw W1107 (xw W1101 (xw W1087 E_s_LOSS))), (xw W1107 (xw W1101 (xw W1087 E_c12))), (vo (vo V_c12 W1101) W1107), O_c12, (xw W1107 (xw W1101 E_s_WIN)), g_c1, lt_c1_c2, lt_c2_c3, lt_c3_c4, lt_c4_c5, lt_c5_c6, lt_c6_c7, lt_c7_c8, lt_c8_c9, lt_c9_c10, lt_c10_c11, lt_c11_c12, od_s_WIN, od_s_LOSS, od_s_DRAW, od_s_SW, od_s_EM, od_e0_, od_e1_, od_s_LOSS, od_s_WIN, hv0, hv1, hv2, hv3, he0, he1, (Or.inr (Or.inl ⟨rfl, rfl⟩)), (Or.inl ⟨rfl, rfl⟩)⟩) (by decide) (by decide)
  · refine aN X0 hx (hb Y d12_0) rfl rfl <| f_face X0 hx hZ hO (by rw [hml]; rfl) (xi := yl13) (y := y13) (w91 hw) (w92 hw) (mvT hZ (w93 hw)) (w94 hw) (w95 hw) (w96 hw) (w97 hw) (w98 hw) (w23 hw) (w99 hw) e0 E_c11 (argsL := []) (rest := []) (q580 l Z a0 hw [] h0 n0 c11 F_c11_s) (lenOf pd9 rfl) (hb Y d12_1) fun T1108 L1108 v1108 X1108 hQ1108 => ?_
    obtain ⟨rfl, N1108q, e1108⟩ := hQ1108
    have N1108 := Fr.app N0 N1108q
    refine aN X1108 hx (hb Y d12_6) rfl rfl <| gF X1108 hx hZ hO (w15 hw) Via.refl e1108 F_c5_wins (hb Y d12_7) fun T1110 X1110 e1110 => ?_
    refine f_len X1110 hx hZ e1110 V_c6 (hb Y d12_10) <| cY X1110 hx (pc := 11) 38 (hb Y d12_11) <| iK X1110 hx (z := 0) (hb Y d12_38) <| sN X1110 hx (L' := #[(rv c5), (rv c11), (iv 0), .unset]) (hb Y d12_39) rfl <| iK X1110 hx (z := 0) (hb Y d12_40) <| sN X1110 hx (L' := #[(rv c5), (rv c11), (iv 0), (iv 0)]) (hb Y d12_41) rfl <| iN X1110 hx (hb Y d12_42) rfl <| aN X1110 hx (hb Y d12_43) rfl rfl <| f_face X1110 hx hZ hO (by rw [hml]; rfl) (xi := yl13) (y := y13) (w91 hw) (w92 hw) (mvT hZ (w93 hw)) (w94 hw) (w95 hw) (w96 hw) (w97 hw) (w98 hw) (w23 hw) (w99 hw) e1110 E_c11 (argsL := []) (rest := [(.int 0)]) (q580 l Z a0 hw [] h0 n0 c11 F_c11_s) (lenOf pd9 rfl) (hb Y d12_44) fun T1111 L1111 v1111 X1111 hQ1111 => ?_
    obtain ⟨rfl, N1111q, e1111⟩ := hQ1111
    have N1111 := Fr.app N1108 N1111q
    refine cN X1111 hx (hb Y d12_49) <| f_getS X1111 hx hZ hO (w100 hw) e1111 S__SwitchMap_com_example_g (hb Y d12_52) fun T1113 X1113 e1113 => ?_
    refine aN X1113 hx (hb Y d12_55) rfl rfl <| iN X1113 hx (hb Y d12_56) rfl <| f_face X1113 hx hZ hO (by rw [hml]; rfl) (xi := yl18) (y := y14) (w103 hw) (w104 hw) (mvT hZ (w105 hw)) (w106 hw) (w107 hw) (w108 hw) (w109 hw) (w98 hw) (w23 hw) (w110 hw) e1113 E_c11 (argsL := [(.int 0)]) (rest := [(.ref s_SW)]) (q763 l Z a0 hw [] h0 n0 c11 c12 kc8 s_LOSS F_c11_s F_c11_elementData V_c12 E_c11) (lenOf pd11 rfl) (hb Y d12_57) fun T1114 L1114 v1114 X1114 hQ1114 => ?_
    obtain ⟨rfl, N1114q, e1114⟩ := hQ1114
    have N1114 := Fr.app N1111 N1114q
    refine f_cast1 X1114 hx hZ hO (w124 hw) e1114 (Ins.self E_s_LOSS) (hb Y d12_62) fun T1120 X1120 e1120 => ?_
    refine f_up X1120 hx hZ hO (by rw [hml]; rfl) (xi := yl20) (y := y18) (owner := "java/lang/Enum") (w126 hw) (w127 hw) (w128 hw) (w130 hw) (w129 hw) (w131 hw) (w132 hw) e1120 E_s_LOSS (argsL := []) (rest := [(.ref s_SW)]) (q658 l Z a0 hw [] h0 n0 s_LOSS F_s_LOSS_ordinal) (lenOf pd9 rfl) (hb Y d12_65) fun T1121 L1121 v1121 X1121 hQ1121 => ?_
    obtain ⟨rfl, N1121q, e1121⟩ := hQ1121
    have N1121 := Fr.app N1114 N1121q
    refine f_iald X1121 hx hZ e1121 V_s_SW (v := (.int 3)) rfl (hb Y d12_68) <| f_tsw X1121 hx (o := 56) (pc := 69) 125 (hb Y d12_69) (by decide +kernel) (by decide +kernel) <| aN X1121 hx (hb Y d12_125) rfl rfl <| gF X1121 hx hZ hO (w19 hw) Via.refl e1121 F_c5_losses (hb Y d12_126) fun T1123 X1123 e1123 => ?_
    refine iN X1123 hx (hb Y d12_129) rfl <| f_dup2 X1123 hx (hb Y d12_130) rfl rfl <| f_iald X1123 hx hZ e1123 V_c8 (v := (.int n15_)) rfl (hb Y d12_131) <| iK X1123 hx (z := 1) (hb Y d12_132) <| iA X1123 hx (z := (n15_ + (1 : Int32))) (hb Y d12_133) (q := rfl) <| f_ist X1123 hx hZ e1123 V_c8 0 (hb Y d12_134) fun T1124 h1124 X1124 e1124 W1124 V1124 => ?_
    have N1124x := Fr.snoc X1124 N1121 (by omega : n0 ≤ c8)
    refine f_iinc X1124 hx (L' := #[(rv c5), (rv c11), (iv 0), (iv 1)]) (hb Y d12_135) rfl rfl <| gT X1124 hx (pc := 138) 42 (hb Y d12_138) <| iN X1124 hx (hb Y d12_42) rfl <| aN X1124 hx (hb Y d12_43) rfl rfl ?_
    replace F_c11_s := (fo W1124 F_c11_s)
    replace E_c11 := (xw W1124 E_c11)
    refine f_face X1124 hx hZ hO (by rw [hml]; rfl) (xi := yl13) (y := y13) (w91 hw) (w92 hw) (mvT hZ (w93 hw)) (w94 hw) (w95 hw) (w96 hw) (w97 hw) (w98 hw) (w23 hw) (w99 hw) e1124 E_c11 (argsL := []) (rest := [(.int 1)]) (q580 l Z a0 hw [] h1124 n0 c11 F_c11_s) (lenOf pd9 rfl) (hb Y d12_44) fun T1125 L1125 v1125 X1125 hQ1125 => ?_
    obtain ⟨rfl, N1125q, e1125⟩ := hQ1125
    have N1125 := Fr.app N1124x N1125q
    refine cN X1125 hx (hb Y d12_49) ?_
    replace S__SwitchMap_com_example_g := (Sta.wr W1124 S__SwitchMap_com_example_g)
    refine f_getS X1125 hx hZ hO (w100 hw) e1125 S__SwitchMap_com_example_g (hb Y d12_52) fun T1127 X1127 e1127 => ?_
    refine aN X1127 hx (hb Y d12_55) rfl rfl <| iN X1127 hx (hb Y d12_56) rfl ?_
    replace F_c11_elementData := (fo W1124 F_c11_elementData)
    replace V_c12 := (vo V_c12 W1124)
    refine f_face X1127 hx hZ hO (by rw [hml]; rfl) (xi := yl18) (y := y14) (w103 hw) (w104 hw) (mvT hZ (w105 hw)) (w106 hw) (w107 hw) (w108 hw) (w109 hw) (w98 hw) (w23 hw) (w110 hw) e1127 E_c11 (argsL := [(.int 1)]) (rest := [(.ref s_SW)]) (q779 l Z a0 hw [] h1124 n0 c11 c12 kc8 s_LOSS F_c11_s F_c11_elementData V_c12 E_c11) (lenOf pd11 rfl) (hb Y d12_57) fun T1128 L1128 v1128 X1128 hQ1128 => ?_
    obtain ⟨rfl, N1128q, e1128⟩ := hQ1128
    have N1128 := Fr.app N1125 N1128q
    replace E_s_LOSS := (xw W1124 E_s_LOSS)
    refine f_cast1 X1128 hx hZ hO (w124 hw) e1128 (Ins.self E_s_LOSS) (hb Y d12_62) fun T1134 X1134 e1134 => ?_
    replace F_s_LOSS_ordinal := (fo W1124 F_s_LOSS_ordinal)
    refine f_up X1134 hx hZ hO (by rw [hml]; rfl) (xi := yl20) (y := y18) (owner := "java/lang/Enum") (w126 hw) (w127 hw) (w128 hw) (w130 hw) (w129 hw) (w131 hw) (w132 hw) e1134 E_s_LOSS (argsL := []) (rest := [(.ref s_SW)]) (q658 l Z a0 hw [] h1124 n0 s_LOSS F_s_LOSS_ordinal) (lenOf pd9 rfl) (hb Y d12_65) fun T1135 L1135 v1135 X1135 hQ1135 => ?_
    obtain ⟨rfl, N1135q, e1135⟩ := hQ1135
    have N1135 := Fr.app N1128 N1135q
    replace V_s_SW := (vo V_s_SW W1124)
    refine f_iald X1135 hx hZ e1135 V_s_SW (v := (.int 3)) rfl (hb Y d12_68) <| f_tsw X1135 hx (o := 56) (pc := 69) 125 (hb Y d12_69) (by decide +kernel) (by decide +kernel) <| aN X1135 hx (hb Y d12_125) rfl rfl ?_
    replace F_c5_losses := (fo W1124 F_c5_losses)
    refine gF X1135 hx hZ hO (w19 hw) Via.refl e1135 F_c5_losses (hb Y d12_126) fun T1137 X1137 e1137 => ?_
    refine iN X1137 hx (hb Y d12_129) rfl <| f_dup2 X1137 hx (hb Y d12_130) rfl rfl ?_
    replace V_c8 := V1124
    refine f_iald X1137 hx hZ e1137 V_c8 (v := (.int n16_)) rfl (hb Y d12_131) <| iK X1137 hx (z := 1) (hb Y d12_132) <| iA X1137 hx (z := (n16_ + (1 : Int32))) (hb Y d12_133) (q := rfl) <| f_ist X1137 hx hZ e1137 V_c8 1 (hb Y d12_134) fun T1138 h1138 X1138 e1138 W1138 V1138 => ?_
    have N1138x := Fr.snoc X1138 N1135 (by omega : n0 ≤ c8)
    refine f_iinc X1138 hx (L' := #[(rv c5), (rv c11), (iv 0), (iv 2)]) (hb Y d12_135) rfl rfl <| gT X1138 hx (pc := 138) 42 (hb Y d12_138) <| iN X1138 hx (hb Y d12_42) rfl <| aN X1138 hx (hb Y d12_43) rfl rfl ?_
    replace F_c11_s := (fo W1138 F_c11_s)
    replace E_c11 := (xw W1138 E_c11)
    refine f_face X1138 hx hZ hO (by rw [hml]; rfl) (xi := yl13) (y := y13) (w91 hw) (w92 hw) (mvT hZ (w93 hw)) (w94 hw) (w95 hw) (w96 hw) (w97 hw) (w98 hw) (w23 hw) (w99 hw) e1138 E_c11 (argsL := []) (rest := [(.int 2)]) (q580 l Z a0 hw [] h1138 n0 c11 F_c11_s) (lenOf pd9 rfl) (hb Y d12_44) fun T1139 L1139 v1139 X1139 hQ1139 => ?_
    obtain ⟨rfl, N1139q, e1139⟩ := hQ1139
    have N1139 := Fr.app N1138x N1139q
    refine cY X1139 hx (pc := 49) 141 (hb Y d12_49) <| iN X1139 hx (hb Y d12_141) rfl <| aN X1139 hx (hb Y d12_142) rfl rfl <| f_face X1139 hx hZ hO (by rw [hml]; rfl) (xi := yl13) (y := y13) (w91 hw) (w92 hw) (mvT hZ (w93 hw)) (w94 hw) (w95 hw) (w96 hw) (w97 hw) (w98 hw) (w23 hw) (w99 hw) e1139 E_c11 (argsL := []) (rest := [(.int 0)]) (q580 l Z a0 hw [] h1138 n0 c11 F_c11_s) (lenOf pd9 rfl) (hb Y d12_143) fun T1141 L1141 v1141 X1141 hQ1141 => ?_
    obtain ⟨rfl, N1141q, e1141⟩ := hQ1141
    have N1141 := Fr.app N1139 N1141q
    refine cY X1141 hx (pc := 148) 161 (hb Y d12_148) <| aN X1141 hx (hb Y d12_161) rfl rfl <| f_dup X1141 hx (hb Y d12_162) rfl ?_
    replace F_c5_matches := (fo W1138 (fo W1124 F_c5_matches))
    refine gF X1141 hx hZ hO (w135 hw) Via.refl e1141 F_c5_matches (hb Y d12_163) fun T1143 X1143 e1143 => ?_
    refine iK X1143 hx (z := 1) (hb Y d12_166) <| iA X1143 hx (z := (n9_ + (1 : Int32))) (hb Y d12_167) (q := rfl) ?_
    replace E_c5 := (xw W1138 (xw W1124 E_c5))
    refine f_putF X1143 hx hZ hO (w135 hw) Via.refl e1143 F_c5_matches E_c5 (Or.inl (w136 hw)) (w6 hw) (ty := .int) (by decide) rfl rfl (hb Y d12_168) fun T1144 h1144 X1144 e1144 W1144 => ?_
    have N1144x := Fr.snoc X1144 N1141 (by omega : n0 ≤ c5)
    exact f_ret0 X1144 hx hlk hret (hb Y d12_171) (QQ := _) (by rw [e1144]; exact ⟨rfl, N1144x, (Sta.wr W1144 (Sta.wr W1138 (Sta.wr W1124 S_WIN))), (Sta.wr W1144 (Sta.wr W1138 (Sta.wr W1124 S_LOSS))), (Sta.wr W1144 (Sta.wr W1138 (Sta.wr W1124 S_DRAW))), (Sta.wr W1144 (Sta.wr W1138 S__SwitchMap_com_example_g)), (Sta.wr W1144 (Sta.wr W1138 (Sta.wr W1124 S_DEFAULTCAPACITY_EMPTY_EL))), (xw W1144 (xw W1138 (xw W1124 E_s_WIN))), (fo W1144 (fo W1138 (fo W1124 F_s_WIN_ordinal))), (xw W1144 (xw W1138 E_s_LOSS)), (fo W1144 (fo W1138 F_s_LOSS_ordinal)), (xw W1144 (xw W1138 (xw W1124 E_s_DRAW))), (fo W1144 (fo W1138 (fo W1124 F_s_DRAW_ordinal))), (vo (vo V_s_SW W1138) W1144), (vo (vo (vo V_s_EM W1124) W1138) W1144), (xw W1144 (xw W1138 (xw W1124 E_c1))), (fo W1144 (fo W1138 (fo W1124 F_c1_wins))), (fo W1144 (fo W1138 (fo W1124 F_c1_draws))), (fo W1144 (fo W1138 (fo W1124 F_c1_losses))), (fo W1144 (fo W1138 (fo W1124 F_c1_matches))), (fo W1144 (fo W1138 (fo W1124 F_c1_drawnMatches))), (vo (vo (vo V_c2 W1124) W1138) W1144), (vo (vo (vo V_c3 W1124) W1138) W1144), (vo (vo (vo V_c4 W1124) W1138) W1144), (xw W1144 E_c5), (Fld.other W1144 (fo W1138 (fo W1124 F_c5_wins)) (Or.inr (slot_ne (Or.inr (w16 hw)) (Or.inl (w136 hw)) (by decide) (t := (.array .int)) (t' := .int) (by decide) (by decide)))), (Fld.other W1144 (fo W1138 (fo W1124 F_c5_draws)) (Or.inr (slot_ne (Or.inr (w18 hw)) (Or.inl (w136 hw)) (by decide) (t := (.array .int)) (t' := .int) (by decide) (by decide)))), (Fld.other W1144 (fo W1138 F_c5_losses) (Or.inr (slot_ne (Or.inr (w20 hw)) (Or.inl (w136 hw)) (by decide) (t := (.array .int)) (t' := .int) (by decide) (by decide)))), (Fld.same W1144 F_c5_matches), (Fld.other W1144 (fo W1138 (fo W1124 F_c5_drawnMatches)) (Or.inr (slot_ne (Or.inl (w143 hw)) (Or.inl (w136 hw)) (by decide) (t := .int) (t' := .int) (by decide) (by decide)))), (vo (vo (vo V_c6 W1124) W1138) W1144), (vo (vo (vo V_c7 W1124) W1138) W1144), (vo V1138 W1144), (xw W1144 (xw W1138 (xw W1124 E_c9))), (fo W1144 (fo W1138 (fo W1124 F_c9_modCount))), (fo W1144 (fo W1138 (fo W1124 F_c9_elementData))), (fo W1144 (fo W1138 (fo W1124 F_c9_s))), (xw W1144 (xw W1138 (xw W1124 E_e0_))), (xw W1144 (xw W1138 (xw W1124 E_c10))), (vo (vo (vo V_c10 W1124) W1138) W1144), O_c10, (xw W1144 (xw W1138 (xw W1124 E_e1_))), (xw W1144 E_c11), (fo W1144 (fo W1138 (fo W1124 F_c11_modCount))), (fo W1144 (fo W1138 F_c11_elementData)), (fo W1144 F_c11_s), (xw W1144 (xw W1138 E_s_LOSS)), (xw W1144 (xw W1138 (xw W1124 E_c12))), (vo (vo V_c12 W1138) W1144), O_c12, (xw W1144 (xw W1138 E_s_LOSS)), g_c1, lt_c1_c2, lt_c2_c3, lt_c3_c4, lt_c4_c5, lt_c5_c6, lt_c6_c7, lt_c7_c8, lt_c8_c9, lt_c9_c10, lt_c10_c11, lt_c11_c12, od_s_WIN, od_s_LOSS, od_s_DRAW, od_s_SW, od_s_EM, od_e0_, od_e1_, od_s_LOSS, od_s_LOSS, hv0, hv1, hv2, hv3, he0, he1, (Or.inr (Or.inl ⟨rfl, rfl⟩)), (Or.inr (Or.inl ⟨rfl, rfl⟩))⟩) (by decide) (by decide)
  · refine aN X0 hx (hb Y d12_0) rfl rfl <| f_face X0 hx hZ hO (by rw [hml]; rfl) (xi := yl13) (y := y13) (w91 hw) (w92 hw) (mvT hZ (w93 hw)) (w94 hw) (w95 hw) (w96 hw) (w97 hw) (w98 hw) (w23 hw) (w99 hw) e0 E_c11 (argsL := []) (rest := []) (q580 l Z a0 hw [] h0 n0 c11 F_c11_s) (lenOf pd9 rfl) (hb Y d12_1) fun T1145 L1145 v1145 X1145 hQ1145 => ?_
    obtain ⟨rfl, N1145q, e1145⟩ := hQ1145
    have N1145 := Fr.app N0 N1145q
    refine aN X1145 hx (hb Y d12_6) rfl rfl <| gF X1145 hx hZ hO (w15 hw) Via.refl e1145 F_c5_wins (hb Y d12_7) fun T1147 X1147 e1147 => ?_
    refine f_len X1147 hx hZ e1147 V_c6 (hb Y d12_10) <| cY X1147 hx (pc := 11) 38 (hb Y d12_11) <| iK X1147 hx (z := 0) (hb Y d12_38) <| sN X1147 hx (L' := #[(rv c5), (rv c11), (iv 0), .unset]) (hb Y d12_39) rfl <| iK X1147 hx (z := 0) (hb Y d12_40) <| sN X1147 hx (L' := #[(rv c5), (rv c11), (iv 0), (iv 0)]) (hb Y d12_41) rfl <| iN X1147 hx (hb Y d12_42) rfl <| aN X1147 hx (hb Y d12_43) rfl rfl <| f_face X1147 hx hZ hO (by rw [hml]; rfl) (xi := yl13) (y := y13) (w91 hw) (w92 hw) (mvT hZ (w93 hw)) (w94 hw) (w95 hw) (w96 hw) (w97 hw) (w98 hw) (w23 hw) (w99 hw) e1147 E_c11 (argsL := []) (rest := [(.int 0)]) (q580 l Z a0 hw [] h0 n0 c11 F_c11_s) (lenOf pd9 rfl) (hb Y d12_44) fun T1148 L1148 v1148 X1148 hQ1148 => ?_
    obtain ⟨rfl, N1148q, e1148⟩ := hQ1148
    have N1148 := Fr.app N1145 N1148q
    refine cN X1148 hx (hb Y d12_49) <| f_getS X1148 hx hZ hO (w100 hw) e1148 S__SwitchMap_com_example_g (hb Y d12_52) fun T1150 X1150 e1150 => ?_
    refine aN X1150 hx (hb Y d12_55) rfl rfl <| iN X1150 hx (hb Y d12_56) rfl <| f_face X1150 hx hZ hO (by rw [hml]; rfl) (xi := yl18) (y := y14) (w103 hw) (w104 hw) (mvT hZ (w105 hw)) (w106 hw) (w107 hw) (w108 hw) (w109 hw) (w98 hw) (w23 hw) (w110 hw) e1150 E_c11 (argsL := [(.int 0)]) (rest := [(.ref s_SW)]) (q804 l Z a0 hw [] h0 n0 c11 c12 kc8 s_LOSS s_DRAW F_c11_s F_c11_elementData V_c12 E_c11) (lenOf pd11 rfl) (hb Y d12_57) fun T1151 L1151 v1151 X1151 hQ1151 => ?_
    obtain ⟨rfl, N1151q, e1151⟩ := hQ1151
    have N1151 := Fr.app N1148 N1151q
    refine f_cast1 X1151 hx hZ hO (w124 hw) e1151 (Ins.self E_s_LOSS) (hb Y d12_62) fun T1157 X1157 e1157 => ?_
    refine f_up X1157 hx hZ hO (by rw [hml]; rfl) (xi := yl20) (y := y18) (owner := "java/lang/Enum") (w126 hw) (w127 hw) (w128 hw) (w130 hw) (w129 hw) (w131 hw) (w132 hw) e1157 E_s_LOSS (argsL := []) (rest := [(.ref s_SW)]) (q658 l Z a0 hw [] h0 n0 s_LOSS F_s_LOSS_ordinal) (lenOf pd9 rfl) (hb Y d12_65) fun T1158 L1158 v1158 X1158 hQ1158 => ?_
    obtain ⟨rfl, N1158q, e1158⟩ := hQ1158
    have N1158 := Fr.app N1151 N1158q
    refine f_iald X1158 hx hZ e1158 V_s_SW (v := (.int 3)) rfl (hb Y d12_68) <| f_tsw X1158 hx (o := 56) (pc := 69) 125 (hb Y d12_69) (by decide +kernel) (by decide +kernel) <| aN X1158 hx (hb Y d12_125) rfl rfl <| gF X1158 hx hZ hO (w19 hw) Via.refl e1158 F_c5_losses (hb Y d12_126) fun T1160 X1160 e1160 => ?_
    refine iN X1160 hx (hb Y d12_129) rfl <| f_dup2 X1160 hx (hb Y d12_130) rfl rfl <| f_iald X1160 hx hZ e1160 V_c8 (v := (.int n15_)) rfl (hb Y d12_131) <| iK X1160 hx (z := 1) (hb Y d12_132) <| iA X1160 hx (z := (n15_ + (1 : Int32))) (hb Y d12_133) (q := rfl) <| f_ist X1160 hx hZ e1160 V_c8 0 (hb Y d12_134) fun T1161 h1161 X1161 e1161 W1161 V1161 => ?_
    have N1161x := Fr.snoc X1161 N1158 (by omega : n0 ≤ c8)
    refine f_iinc X1161 hx (L' := #[(rv c5), (rv c11), (iv 0), (iv 1)]) (hb Y d12_135) rfl rfl <| gT X1161 hx (pc := 138) 42 (hb Y d12_138) <| iN X1161 hx (hb Y d12_42) rfl <| aN X1161 hx (hb Y d12_43) rfl rfl ?_
    replace F_c11_s := (fo W1161 F_c11_s)
    replace E_c11 := (xw W1161 E_c11)
    refine f_face X1161 hx hZ hO (by rw [hml]; rfl) (xi := yl13) (y := y13) (w91 hw) (w92 hw) (mvT hZ (w93 hw)) (w94 hw) (w95 hw) (w96 hw) (w97 hw) (w98 hw) (w23 hw) (w99 hw) e1161 E_c11 (argsL := []) (rest := [(.int 1)]) (q580 l Z a0 hw [] h1161 n0 c11 F_c11_s) (lenOf pd9 rfl) (hb Y d12_44) fun T1162 L1162 v1162 X1162 hQ1162 => ?_
    obtain ⟨rfl, N1162q, e1162⟩ := hQ1162
    have N1162 := Fr.app N1161x N1162q
    refine cN X1162 hx (hb Y d12_49) ?_
    replace S__SwitchMap_com_example_g := (Sta.wr W1161 S__SwitchMap_com_example_g)
    refine f_getS X1162 hx hZ hO (w100 hw) e1162 S__SwitchMap_com_example_g (hb Y d12_52) fun T1164 X1164 e1164 => ?_
    refine aN X1164 hx (hb Y d12_55) rfl rfl <| iN X1164 hx (hb Y d12_56) rfl ?_
    replace F_c11_elementData := (fo W1161 F_c11_elementData)
    replace V_c12 := (vo V_c12 W1161)
    refine f_face X1164 hx hZ hO (by rw [hml]; rfl) (xi := yl18) (y := y14) (w103 hw) (w104 hw) (mvT hZ (w105 hw)) (w106 hw) (w107 hw) (w108 hw) (w109 hw) (w98 hw) (w23 hw) (w110 hw) e1164 E_c11 (argsL := [(.int 1)]) (rest := [(.ref s_SW)]) (q820 l Z a0 hw [] h1161 n0 c11 c12 kc8 s_LOSS s_DRAW F_c11_s F_c11_elementData V_c12 E_c11) (lenOf pd11 rfl) (hb Y d12_57) fun T1165 L1165 v1165 X1165 hQ1165 => ?_
    obtain ⟨rfl, N1165q, e1165⟩ := hQ1165
    have N1165 := Fr.app N1162 N1165q
    replace E_s_DRAW := (xw W1161 E_s_DRAW)
    refine f_cast1 X1165 hx hZ hO (w124 hw) e1165 (Ins.self E_s_DRAW) (hb Y d12_62) fun T1171 X1171 e1171 => ?_
    replace F_s_DRAW_ordinal := (fo W1161 F_s_DRAW_ordinal)
    refine f_up X1171 hx hZ hO (by rw [hml]; rfl) (xi := yl20) (y := y18) (owner := "java/lang/Enum") (w126 hw) (w127 hw) (w128 hw) (w130 hw) (w129 hw) (w131 hw) (w132 hw) e1171 E_s_DRAW (argsL := []) (rest := [(.ref s_SW)]) (q700 l Z a0 hw [] h1161 n0 s_DRAW F_s_DRAW_ordinal) (lenOf pd9 rfl) (hb Y d12_65) fun T1172 L1172 v1172 X1172 hQ1172 => ?_
    obtain ⟨rfl, N1172q, e1172⟩ := hQ1172
    have N1172 := Fr.app N1165 N1172q
    replace V_s_SW := (vo V_s_SW W1161)
    refine f_iald X1172 hx hZ e1172 V_s_SW (v := (.int 2)) rfl (hb Y d12_68) <| f_tsw X1172 hx (o := 40) (pc := 69) 109 (hb Y d12_69) (by decide +kernel) (by decide +kernel) <| aN X1172 hx (hb Y d12_109) rfl rfl ?_
    replace F_c5_draws := (fo W1161 F_c5_draws)
    refine gF X1172 hx hZ hO (w17 hw) Via.refl e1172 F_c5_draws (hb Y d12_110) fun T1174 X1174 e1174 => ?_
    refine iN X1174 hx (hb Y d12_113) rfl <| f_dup2 X1174 hx (hb Y d12_114) rfl rfl ?_
    replace V_c7 := (vo V_c7 W1161)
    refine f_iald X1174 hx hZ e1174 V_c7 (v := (.int n14_)) rfl (hb Y d12_115) <| iK X1174 hx (z := 1) (hb Y d12_116) <| iA X1174 hx (z := (n14_ + (1 : Int32))) (hb Y d12_117) (q := rfl) <| f_ist X1174 hx hZ e1174 V_c7 1 (hb Y d12_118) fun T1175 h1175 X1175 e1175 W1175 V1175 => ?_
    have N1175x := Fr.snoc X1175 N1172 (by omega : n0 ≤ c7)
    refine f_iinc X1175 hx (L' := #[(rv c5), (rv c11), (iv 1), (iv 1)]) (hb Y d12_119) rfl rfl <| gT X1175 hx (pc := 122) 135 (hb Y d12_122) <| f_iinc X1175 hx (L' := #[(rv c5), (rv c11), (iv 1), (iv 2)]) (hb Y d12_135) rfl rfl <| gT X1175 hx (pc := 138) 42 (hb Y d12_138) <| iN X1175 hx (hb Y d12_42) rfl <| aN X1175 hx (hb Y d12_43) rfl rfl ?_
    replace F_c11_s := (fo W1175 F_c11_s)
    replace E_c11 := (xw W1175 E_c11)
    refine f_face X1175 hx hZ hO (by rw [hml]; rfl) (xi := yl13) (y := y13) (w91 hw) (w92 hw) (mvT hZ (w93 hw)) (w94 hw) (w95 hw) (w96 hw) (w97 hw) (w98 hw) (w23 hw) (w99 hw) e1175 E_c11 (argsL := []) (rest := [(.int 2)]) (q580 l Z a0 hw [] h1175 n0 c11 F_c11_s) (lenOf pd9 rfl) (hb Y d12_44) fun T1176 L1176 v1176 X1176 hQ1176 => ?_
    obtain ⟨rfl, N1176q, e1176⟩ := hQ1176
    have N1176 := Fr.app N1175x N1176q
    refine cY X1176 hx (pc := 49) 141 (hb Y d12_49) <| iN X1176 hx (hb Y d12_141) rfl <| aN X1176 hx (hb Y d12_142) rfl rfl <| f_face X1176 hx hZ hO (by rw [hml]; rfl) (xi := yl13) (y := y13) (w91 hw) (w92 hw) (mvT hZ (w93 hw)) (w94 hw) (w95 hw) (w96 hw) (w97 hw) (w98 hw) (w23 hw) (w99 hw) e1176 E_c11 (argsL := []) (rest := [(.int 1)]) (q580 l Z a0 hw [] h1175 n0 c11 F_c11_s) (lenOf pd9 rfl) (hb Y d12_143) fun T1178 L1178 v1178 X1178 hQ1178 => ?_
    obtain ⟨rfl, N1178q, e1178⟩ := hQ1178
    have N1178 := Fr.app N1176 N1178q
    refine cY X1178 hx (pc := 148) 161 (hb Y d12_148) <| aN X1178 hx (hb Y d12_161) rfl rfl <| f_dup X1178 hx (hb Y d12_162) rfl ?_
    replace F_c5_matches := (fo W1175 (fo W1161 F_c5_matches))
    refine gF X1178 hx hZ hO (w135 hw) Via.refl e1178 F_c5_matches (hb Y d12_163) fun T1180 X1180 e1180 => ?_
    refine iK X1180 hx (z := 1) (hb Y d12_166) <| iA X1180 hx (z := (n9_ + (1 : Int32))) (hb Y d12_167) (q := rfl) ?_
    replace E_c5 := (xw W1175 (xw W1161 E_c5))
    refine f_putF X1180 hx hZ hO (w135 hw) Via.refl e1180 F_c5_matches E_c5 (Or.inl (w136 hw)) (w6 hw) (ty := .int) (by decide) rfl rfl (hb Y d12_168) fun T1181 h1181 X1181 e1181 W1181 => ?_
    have N1181x := Fr.snoc X1181 N1178 (by omega : n0 ≤ c5)
    exact f_ret0 X1181 hx hlk hret (hb Y d12_171) (QQ := _) (by rw [e1181]; exact ⟨rfl, N1181x, (Sta.wr W1181 (Sta.wr W1175 (Sta.wr W1161 S_WIN))), (Sta.wr W1181 (Sta.wr W1175 (Sta.wr W1161 S_LOSS))), (Sta.wr W1181 (Sta.wr W1175 (Sta.wr W1161 S_DRAW))), (Sta.wr W1181 (Sta.wr W1175 S__SwitchMap_com_example_g)), (Sta.wr W1181 (Sta.wr W1175 (Sta.wr W1161 S_DEFAULTCAPACITY_EMPTY_EL))), (xw W1181 (xw W1175 (xw W1161 E_s_WIN))), (fo W1181 (fo W1175 (fo W1161 F_s_WIN_ordinal))), (xw W1181 (xw W1175 (xw W1161 E_s_LOSS))), (fo W1181 (fo W1175 (fo W1161 F_s_LOSS_ordinal))), (xw W1181 (xw W1175 E_s_DRAW)), (fo W1181 (fo W1175 F_s_DRAW_ordinal)), (vo (vo V_s_SW W1175) W1181), (vo (vo (vo V_s_EM W1161) W1175) W1181), (xw W1181 (xw W1175 (xw W1161 E_c1))), (fo W1181 (fo W1175 (fo W1161 F_c1_wins))), (fo W1181 (fo W1175 (fo W1161 F_c1_draws))), (fo W1181 (fo W1175 (fo W1161 F_c1_losses))), (fo W1181 (fo W1175 (fo W1161 F_c1_matches))), (fo W1181 (fo W1175 (fo W1161 F_c1_drawnMatches))), (vo (vo (vo V_c2 W1161) W1175) W1181), (vo (vo (vo V_c3 W1161) W1175) W1181), (vo (vo (vo V_c4 W1161) W1175) W1181), (xw W1181 E_c5), (Fld.other W1181 (fo W1175 (fo W1161 F_c5_wins)) (Or.inr (slot_ne (Or.inr (w16 hw)) (Or.inl (w136 hw)) (by decide) (t := (.array .int)) (t' := .int) (by decide) (by decide)))), (Fld.other W1181 (fo W1175 F_c5_draws) (Or.inr (slot_ne (Or.inr (w18 hw)) (Or.inl (w136 hw)) (by decide) (t := (.array .int)) (t' := .int) (by decide) (by decide)))), (Fld.other W1181 (fo W1175 (fo W1161 F_c5_losses)) (Or.inr (slot_ne (Or.inr (w20 hw)) (Or.inl (w136 hw)) (by decide) (t := (.array .int)) (t' := .int) (by decide) (by decide)))), (Fld.same W1181 F_c5_matches), (Fld.other W1181 (fo W1175 (fo W1161 F_c5_drawnMatches)) (Or.inr (slot_ne (Or.inl (w143 hw)) (Or.inl (w136 hw)) (by decide) (t := .int) (t' := .int) (by decide) (by decide)))), (vo (vo (vo V_c6 W1161) W1175) W1181), (vo V1175 W1181), (vo (vo V1161 W1175) W1181), (xw W1181 (xw W1175 (xw W1161 E_c9))), (fo W1181 (fo W1175 (fo W1161 F_c9_modCount))), (fo W1181 (fo W1175 (fo W1161 F_c9_elementData))), (fo W1181 (fo W1175 (fo W1161 F_c9_s))), (xw W1181 (xw W1175 (xw W1161 E_e0_))), (xw W1181 (xw W1175 (xw W1161 E_c10))), (vo (vo (vo V_c10 W1161) W1175) W1181), O_c10, (xw W1181 (xw W1175 (xw W1161 E_e1_))), (xw W1181 E_c11), (fo W1181 (fo W1175 (fo W1161 F_c11_modCount))), (fo W1181 (fo W1175 F_c11_elementData)), (fo W1181 F_c11_s), (xw W1181 (xw W1175 (xw W1161 E_s_LOSS))), (xw W1181 (xw W1175 (xw W1161 E_c12))), (vo (vo V_c12 W1175) W1181), O_c12, (xw W1181 (xw W1175 E_s_DRAW)), g_c1, lt_c1_c2, lt_c2_c3, lt_c3_c4, lt_c4_c5, lt_c5_c6, lt_c6_c7, lt_c7_c8, lt_c8_c9, lt_c9_c10, lt_c10_c11, lt_c11_c12, od_s_WIN, od_s_LOSS, od_s_DRAW, od_s_SW, od_s_EM, od_e0_, od_e1_, od_s_LOSS, od_s_DRAW, hv0, hv1, hv2, hv3, he0, he1, (Or.inr (Or.inl ⟨rfl, rfl⟩)), (Or.inr (Or.inr ⟨rfl, rfl⟩))⟩) (by decide) (by decide)
  · refine aN X0 hx (hb Y d12_0) rfl rfl <| f_face X0 hx hZ hO (by rw [hml]; rfl) (xi := yl13) (y := y13) (w91 hw) (w92 hw) (mvT hZ (w93 hw)) (w94 hw) (w95 hw) (w96 hw) (w97 hw) (w98 hw) (w23 hw) (w99 hw) e0 E_c11 (argsL := []) (rest := []) (q580 l Z a0 hw [] h0 n0 c11 F_c11_s) (lenOf pd9 rfl) (hb Y d12_1) fun T1182 L1182 v1182 X1182 hQ1182 => ?_
    obtain ⟨rfl, N1182q, e1182⟩ := hQ1182
    have N1182 := Fr.app N0 N1182q
    refine aN X1182 hx (hb Y d12_6) rfl rfl <| gF X1182 hx hZ hO (w15 hw) Via.refl e1182 F_c5_wins (hb Y d12_7) fun T1184 X1184 e1184 => ?_
    refine f_len X1184 hx hZ e1184 V_c6 (hb Y d12_10) <| cY X1184 hx (pc := 11) 38 (hb Y d12_11) <| iK X1184 hx (z := 0) (hb Y d12_38) <| sN X1184 hx (L' := #[(rv c5), (rv c11), (iv 0), .unset]) (hb Y d12_39) rfl <| iK X1184 hx (z := 0) (hb Y d12_40) <| sN X1184 hx (L' := #[(rv c5), (rv c11), (iv 0), (iv 0)]) (hb Y d12_41) rfl <| iN X1184 hx (hb Y d12_42) rfl <| aN X1184 hx (hb Y d12_43) rfl rfl <| f_face X1184 hx hZ hO (by rw [hml]; rfl) (xi := yl13) (y := y13) (w91 hw) (w92 hw) (mvT hZ (w93 hw)) (w94 hw) (w95 hw) (w96 hw) (w97 hw) (w98 hw) (w23 hw) (w99 hw) e1184 E_c11 (argsL := []) (rest := [(.int 0)]) (q580 l Z a0 hw [] h0 n0 c11 F_c11_s) (lenOf pd9 rfl) (hb Y d12_44) fun T1185 L1185 v1185 X1185 hQ1185 => ?_
    obtain ⟨rfl, N1185q, e1185⟩ := hQ1185
    have N1185 := Fr.app N1182 N1185q
    refine cN X1185 hx (hb Y d12_49) <| f_getS X1185 hx hZ hO (w100 hw) e1185 S__SwitchMap_com_example_g (hb Y d12_52) fun T1187 X1187 e1187 => ?_
    refine aN X1187 hx (hb Y d12_55) rfl rfl <| iN X1187 hx (hb Y d12_56) rfl <| f_face X1187 hx hZ hO (by rw [hml]; rfl) (xi := yl18) (y := y14) (w103 hw) (w104 hw) (mvT hZ (w105 hw)) (w106 hw) (w107 hw) (w108 hw) (w109 hw) (w98 hw) (w23 hw) (w110 hw) e1187 E_c11 (argsL := [(.int 0)]) (rest := [(.ref s_SW)]) (q845 l Z a0 hw [] h0 n0 c11 c12 kc8 s_DRAW s_WIN F_c11_s F_c11_elementData V_c12 E_c11) (lenOf pd11 rfl) (hb Y d12_57) fun T1188 L1188 v1188 X1188 hQ1188 => ?_
    obtain ⟨rfl, N1188q, e1188⟩ := hQ1188
    have N1188 := Fr.app N1185 N1188q
    refine f_cast1 X1188 hx hZ hO (w124 hw) e1188 (Ins.self E_s_DRAW) (hb Y d12_62) fun T1194 X1194 e1194 => ?_
    refine f_up X1194 hx hZ hO (by rw [hml]; rfl) (xi := yl20) (y := y18) (owner := "java/lang/Enum") (w126 hw) (w127 hw) (w128 hw) (w130 hw) (w129 hw) (w131 hw) (w132 hw) e1194 E_s_DRAW (argsL := []) (rest := [(.ref s_SW)]) (q700 l Z a0 hw [] h0 n0 s_DRAW F_s_DRAW_ordinal) (lenOf pd9 rfl) (hb Y d12_65) fun T1195 L1195 v1195 X1195 hQ1195 => ?_
    obtain ⟨rfl, N1195q, e1195⟩ := hQ1195
    have N1195 := Fr.app N1188 N1195q
    refine f_iald X1195 hx hZ e1195 V_s_SW (v := (.int 2)) rfl (hb Y d12_68) <| f_tsw X1195 hx (o := 40) (pc := 69) 109 (hb Y d12_69) (by decide +kernel) (by decide +kernel) <| aN X1195 hx (hb Y d12_109) rfl rfl <| gF X1195 hx hZ hO (w17 hw) Via.refl e1195 F_c5_draws (hb Y d12_110) fun T1197 X1197 e1197 => ?_
    refine iN X1197 hx (hb Y d12_113) rfl <| f_dup2 X1197 hx (hb Y d12_114) rfl rfl <| f_iald X1197 hx hZ e1197 V_c7 (v := (.int n13_)) rfl (hb Y d12_115) <| iK X1197 hx (z := 1) (hb Y d12_116) <| iA X1197 hx (z := (n13_ + (1 : Int32))) (hb Y d12_117) (q := rfl) <| f_ist X1197 hx hZ e1197 V_c7 0 (hb Y d12_118) fun T1198 h1198 X1198 e1198 W1198 V1198 => ?_
    have N1198x := Fr.snoc X1198 N1195 (by omega : n0 ≤ c7)
    refine f_iinc X1198 hx (L' := #[(rv c5), (rv c11), (iv 1), (iv 0)]) (hb Y d12_119) rfl rfl <| gT X1198 hx (pc := 122) 135 (hb Y d12_122) <| f_iinc X1198 hx (L' := #[(rv c5), (rv c11), (iv 1), (iv 1)]) (hb Y d12_135) rfl rfl <| gT X1198 hx (pc := 138) 42 (hb Y d12_138) <| iN X1198 hx (hb Y d12_42) rfl <| aN X1198 hx (hb Y d12_43) rfl rfl ?_
    replace F_c11_s := (fo W1198 F_c11_s)
    replace E_c11 := (xw W1198 E_c11)
    refine f_face X1198 hx hZ hO (by rw [hml]; rfl) (xi := yl13) (y := y13) (w91 hw) (w92 hw) (mvT hZ (w93 hw)) (w94 hw) (w95 hw) (w96 hw) (w97 hw) (w98 hw) (w23 hw) (w99 hw) e1198 E_c11 (argsL := []) (rest := [(.int 1)]) (q580 l Z a0 hw [] h1198 n0 c11 F_c11_s) (lenOf pd9 rfl) (hb Y d12_44) fun T1199 L1199 v1199 X1199 hQ1199 => ?_
    obtain ⟨rfl, N1199q, e1199⟩ := hQ1199
    have N1199 := Fr.app N1198x N1199q
    refine cN X1199 hx (hb Y d12_49) ?_
    replace S__SwitchMap_com_example_g := (Sta.wr W1198 S__SwitchMap_com_example_g)
    refine f_getS X1199 hx hZ hO (w100 hw) e1199 S__SwitchMap_com_example_g (hb Y d12_52) fun T1201 X1201 e1201 => ?_
    refine aN X1201 hx (hb Y d12_55) rfl rfl <| iN X1201 hx (hb Y d12_56) rfl ?_
    replace F_c11_elementData := (fo W1198 F_c11_elementData)
    replace V_c12 := (vo V_c12 W1198)
    refine f_face X1201 hx hZ hO (by rw [hml]; rfl) (xi := yl18) (y := y14) (w103 hw) (w104 hw) (mvT hZ (w105 hw)) (w106 hw) (w107 hw) (w108 hw) (w109 hw) (w98 hw) (w23 hw) (w110 hw) e1201 E_c11 (argsL := [(.int 1)]) (rest := [(.ref s_SW)]) (q861 l Z a0 hw [] h1198 n0 c11 c12 kc8 s_DRAW s_WIN F_c11_s F_c11_elementData V_c12 E_c11) (lenOf pd11 rfl) (hb Y d12_57) fun T1202 L1202 v1202 X1202 hQ1202 => ?_
    obtain ⟨rfl, N1202q, e1202⟩ := hQ1202
    have N1202 := Fr.app N1199 N1202q
    replace E_s_WIN := (xw W1198 E_s_WIN)
    refine f_cast1 X1202 hx hZ hO (w124 hw) e1202 (Ins.self E_s_WIN) (hb Y d12_62) fun T1208 X1208 e1208 => ?_
    replace F_s_WIN_ordinal := (fo W1198 F_s_WIN_ordinal)
    refine f_up X1208 hx hZ hO (by rw [hml]; rfl) (xi := yl20) (y := y18) (owner := "java/lang/Enum") (w126 hw) (w127 hw) (w128 hw) (w130 hw) (w129 hw) (w131 hw) (w132 hw) e1208 E_s_WIN (argsL := []) (rest := [(.ref s_SW)]) (q598 l Z a0 hw [] h1198 n0 s_WIN F_s_WIN_ordinal) (lenOf pd9 rfl) (hb Y d12_65) fun T1209 L1209 v1209 X1209 hQ1209 => ?_
    obtain ⟨rfl, N1209q, e1209⟩ := hQ1209
    have N1209 := Fr.app N1202 N1209q
    replace V_s_SW := (vo V_s_SW W1198)
    refine f_iald X1209 hx hZ e1209 V_s_SW (v := (.int 1)) rfl (hb Y d12_68) <| f_tsw X1209 hx (o := 27) (pc := 69) 96 (hb Y d12_69) (by decide +kernel) (by decide +kernel) <| aN X1209 hx (hb Y d12_96) rfl rfl ?_
    replace F_c5_wins := (fo W1198 F_c5_wins)
    refine gF X1209 hx hZ hO (w15 hw) Via.refl e1209 F_c5_wins (hb Y d12_97) fun T1211 X1211 e1211 => ?_
    refine iN X1211 hx (hb Y d12_100) rfl <| f_dup2 X1211 hx (hb Y d12_101) rfl rfl ?_
    replace V_c6 := (vo V_c6 W1198)
    refine f_iald X1211 hx hZ e1211 V_c6 (v := (.int n12_)) rfl (hb Y d12_102) <| iK X1211 hx (z := 1) (hb Y d12_103) <| iA X1211 hx (z := (n12_ + (1 : Int32))) (hb Y d12_104) (q := rfl) <| f_ist X1211 hx hZ e1211 V_c6 1 (hb Y d12_105) fun T1212 h1212 X1212 e1212 W1212 V1212 => ?_
    have N1212x := Fr.snoc X1212 N1209 (by omega : n0 ≤ c6)
    refine gT X1212 hx (pc := 106) 135 (hb Y d12_106) <| f_iinc X1212 hx (L' := #[(rv c5), (rv c11), (iv 1), (iv 2)]) (hb Y d12_135) rfl rfl <| gT X1212 hx (pc := 138) 42 (hb Y d12_138) <| iN X1212 hx (hb Y d12_42) rfl <| aN X1212 hx (hb Y d12_43) rfl rfl ?_
    replace F_c11_s := (fo W1212 F_c11_s)
    replace E_c11 := (xw W1212 E_c11)
    refine f_face X1212 hx hZ hO (by rw [hml]; rfl) (xi := yl13) (y := y13) (w91 hw) (w92 hw) (mvT hZ (w93 hw)) (w94 hw) (w95 hw) (w96 hw) (w97 hw) (w98 hw) (w23 hw) (w99 hw) e1212 E_c11 (argsL := []) (rest := [(.int 2)]) (q580 l Z a0 hw [] h1212 n0 c11 F_c11_s) (lenOf pd9 rfl) (hb Y d12_44) fun T1213 L1213 v1213 X1213 hQ1213 => ?_
    obtain ⟨rfl, N1213q, e1213⟩ := hQ1213
    have N1213 := Fr.app N1212x N1213q
    refine cY X1213 hx (pc := 49) 141 (hb Y d12_49) <| iN X1213 hx (hb Y d12_141) rfl <| aN X1213 hx (hb Y d12_142) rfl rfl <| f_face X1213 hx hZ hO (by rw [hml]; rfl) (xi := yl13) (y := y13) (w91 hw) (w92 hw) (mvT hZ (w93 hw)) (w94 hw) (w95 hw) (w96 hw) (w97 hw) (w98 hw) (w23 hw) (w99 hw) e1213 E_c11 (argsL := []) (rest := [(.int 1)]) (q580 l Z a0 hw [] h1212 n0 c11 F_c11_s) (lenOf pd9 rfl) (hb Y d12_143) fun T1215 L1215 v1215 X1215 hQ1215 => ?_
    obtain ⟨rfl, N1215q, e1215⟩ := hQ1215
    have N1215 := Fr.app N1213 N1215q
    refine cY X1215 hx (pc := 148) 161 (hb Y d12_148) <| aN X1215 hx (hb Y d12_161) rfl rfl <| f_dup X1215 hx (hb Y d12_162) rfl ?_
    replace F_c5_matches := (fo W1212 (fo W1198 F_c5_matches))
    refine gF X1215 hx hZ hO (w135 hw) Via.refl e1215 F_c5_matches (hb Y d12_163) fun T1217 X1217 e1217 => ?_
    refine iK X1217 hx (z := 1) (hb Y d12_166) <| iA X1217 hx (z := (n9_ + (1 : Int32))) (hb Y d12_167) (q := rfl) ?_
    replace E_c5 := (xw W1212 (xw W1198 E_c5))
    refine f_putF X1217 hx hZ hO (w135 hw) Via.refl e1217 F_c5_matches E_c5 (Or.inl (w136 hw)) (w6 hw) (ty := .int) (by decide) rfl rfl (hb Y d12_168) fun T1218 h1218 X1218 e1218 W1218 => ?_
    have N1218x := Fr.snoc X1218 N1215 (by omega : n0 ≤ c5)
    exact f_ret0 X1218 hx hlk hret (hb Y d12_171) (QQ := _) (by rw [e1218]; exact ⟨rfl, N1218x, (Sta.wr W1218 (Sta.wr W1212 (Sta.wr W1198 S_WIN))), (Sta.wr W1218 (Sta.wr W1212 (Sta.wr W1198 S_LOSS))), (Sta.wr W1218 (Sta.wr W1212 (Sta.wr W1198 S_DRAW))), (Sta.wr W1218 (Sta.wr W1212 S__SwitchMap_com_example_g)), (Sta.wr W1218 (Sta.wr W1212 (Sta.wr W1198 S_DEFAULTCAPACITY_EMPTY_EL))), (xw W1218 (xw W1212 E_s_WIN)), (fo W1218 (fo W1212 F_s_WIN_ordinal)), (xw W1218 (xw W1212 (xw W1198 E_s_LOSS))), (fo W1218 (fo W1212 (fo W1198 F_s_LOSS_ordinal))), (xw W1218 (xw W1212 (xw W1198 E_s_DRAW))), (fo W1218 (fo W1212 (fo W1198 F_s_DRAW_ordinal))), (vo (vo V_s_SW W1212) W1218), (vo (vo (vo V_s_EM W1198) W1212) W1218), (xw W1218 (xw W1212 (xw W1198 E_c1))), (fo W1218 (fo W1212 (fo W1198 F_c1_wins))), (fo W1218 (fo W1212 (fo W1198 F_c1_draws))), (fo W1218 (fo W1212 (fo W1198 F_c1_losses))), (fo W1218 (fo W1212 (fo W1198 F_c1_matches))), (fo W1218 (fo W1212 (fo W1198 F_c1_drawnMatches))), (vo (vo (vo V_c2 W1198) W1212) W1218), (vo (vo (vo V_c3 W1198) W1212) W1218), (vo (vo (vo V_c4 W1198) W1212) W1218), (xw W1218 E_c5), (Fld.other W1218 (fo W1212 F_c5_wins) (Or.inr (slot_ne (Or.inr (w16 hw)) (Or.inl (w136 hw)) (by decide) (t := (.array .int)) (t' := .int) (by decide) (by decide)))), (Fld.other W1218 (fo W1212 (fo W1198 F_c5_draws)) (Or.inr (slot_ne (Or.inr (w18 hw)) (Or.inl (w136 hw)) (by decide) (t := (.array .int)) (t' := .int) (by decide) (by decide)))), (Fld.other W1218 (fo W1212 (fo W1198 F_c5_losses)) (Or.inr (slot_ne (Or.inr (w20 hw)) (Or.inl (w136 hw)) (by decide) (t := (.array .int)) (t' := .int) (by decide) (by decide)))), (Fld.same W1218 F_c5_matches), (Fld.other W1218 (fo W1212 (fo W1198 F_c5_drawnMatches)) (Or.inr (slot_ne (Or.inl (w143 hw)) (Or.inl (w136 hw)) (by decide) (t := .int) (t' := .int) (by decide) (by decide)))), (vo V1212 W1218), (vo (vo V1198 W1212) W1218), (vo (vo (vo V_c8 W1198) W1212) W1218), (xw W1218 (xw W1212 (xw W1198 E_c9))), (fo W1218 (fo W1212 (fo W1198 F_c9_modCount))), (fo W1218 (fo W1212 (fo W1198 F_c9_elementData))), (fo W1218 (fo W1212 (fo W1198 F_c9_s))), (xw W1218 (xw W1212 (xw W1198 E_e0_))), (xw W1218 (xw W1212 (xw W1198 E_c10))), (vo (vo (vo V_c10 W1198) W1212) W1218), O_c10, (xw W1218 (xw W1212 (xw W1198 E_e1_))), (xw W1218 E_c11), (fo W1218 (fo W1212 (fo W1198 F_c11_modCount))), (fo W1218 (fo W1212 F_c11_elementData)), (fo W1218 F_c11_s), (xw W1218 (xw W1212 (xw W1198 E_s_DRAW))), (xw W1218 (xw W1212 (xw W1198 E_c12))), (vo (vo V_c12 W1212) W1218), O_c12, (xw W1218 (xw W1212 E_s_WIN)), g_c1, lt_c1_c2, lt_c2_c3, lt_c3_c4, lt_c4_c5, lt_c5_c6, lt_c6_c7, lt_c7_c8, lt_c8_c9, lt_c9_c10, lt_c10_c11, lt_c11_c12, od_s_WIN, od_s_LOSS, od_s_DRAW, od_s_SW, od_s_EM, od_e0_, od_e1_, od_s_DRAW, od_s_WIN, hv0, hv1, hv2, hv3, he0, he1, (Or.inr (Or.inr ⟨rfl, rfl⟩)), (Or.inl ⟨rfl, rfl⟩)⟩) (by decide) (by decide)
  · refine aN X0 hx (hb Y d12_0) rfl rfl <| f_face X0 hx hZ hO (by rw [hml]; rfl) (xi := yl13) (y := y13) (w91 hw) (w92 hw) (mvT hZ (w93 hw)) (w94 hw) (w95 hw) (w96 hw) (w97 hw) (w98 hw) (w23 hw) (w99 hw) e0 E_c11 (argsL := []) (rest := []) (q580 l Z a0 hw [] h0 n0 c11 F_c11_s) (lenOf pd9 rfl) (hb Y d12_1) fun T1219 L1219 v1219 X1219 hQ1219 => ?_
    obtain ⟨rfl, N1219q, e1219⟩ := hQ1219
    have N1219 := Fr.app N0 N1219q
    refine aN X1219 hx (hb Y d12_6) rfl rfl <| gF X1219 hx hZ hO (w15 hw) Via.refl e1219 F_c5_wins (hb Y d12_7) fun T1221 X1221 e1221 => ?_
    refine f_len X1221 hx hZ e1221 V_c6 (hb Y d12_10) <| cY X1221 hx (pc := 11) 38 (hb Y d12_11) <| iK X1221 hx (z := 0) (hb Y d12_38) <| sN X1221 hx (L' := #[(rv c5), (rv c11), (iv 0), .unset]) (hb Y d12_39) rfl <| iK X1221 hx (z := 0) (hb Y d12_40) <| sN X1221 hx (L' := #[(rv c5), (rv c11), (iv 0), (iv 0)]) (hb Y d12_41) rfl <| iN X1221 hx (hb Y d12_42) rfl <| aN X1221 hx (hb Y d12_43) rfl rfl <| f_face X1221 hx hZ hO (by rw [hml]; rfl) (xi := yl13) (y := y13) (w91 hw) (w92 hw) (mvT hZ (w93 hw)) (w94 hw) (w95 hw) (w96 hw) (w97 hw) (w98 hw) (w23 hw) (w99 hw) e1221 E_c11 (argsL := []) (rest := [(.int 0)]) (q580 l Z a0 hw [] h0 n0 c11 F_c11_s) (lenOf pd9 rfl) (hb Y d12_44) fun T1222 L1222 v1222 X1222 hQ1222 => ?_
    obtain ⟨rfl, N1222q, e1222⟩ := hQ1222
    have N1222 := Fr.app N1219 N1222q
    refine cN X1222 hx (hb Y d12_49) <| f_getS X1222 hx hZ hO (w100 hw) e1222 S__SwitchMap_com_example_g (hb Y d12_52) fun T1224 X1224 e1224 => ?_
    refine aN X1224 hx (hb Y d12_55) rfl rfl <| iN X1224 hx (hb Y d12_56) rfl <| f_face X1224 hx hZ hO (by rw [hml]; rfl) (xi := yl18) (y := y14) (w103 hw) (w104 hw) (mvT hZ (w105 hw)) (w106 hw) (w107 hw) (w108 hw) (w109 hw) (w98 hw) (w23 hw) (w110 hw) e1224 E_c11 (argsL := [(.int 0)]) (rest := [(.ref s_SW)]) (q886 l Z a0 hw [] h0 n0 c11 c12 kc8 s_DRAW s_LOSS F_c11_s F_c11_elementData V_c12 E_c11) (lenOf pd11 rfl) (hb Y d12_57) fun T1225 L1225 v1225 X1225 hQ1225 => ?_
    obtain ⟨rfl, N1225q, e1225⟩ := hQ1225
    have N1225 := Fr.app N1222 N1225q
    refine f_cast1 X1225 hx hZ hO (w124 hw) e1225 (Ins.self E_s_DRAW) (hb Y d12_62) fun T1231 X1231 e1231 => ?_
    refine f_up X1231 hx hZ hO (by rw [hml]; rfl) (xi := yl20) (y := y18) (owner := "java/lang/Enum") (w126 hw) (w127 hw) (w128 hw) (w130 hw) (w129 hw) (w131 hw) (w132 hw) e1231 E_s_DRAW (argsL := []) (rest := [(.ref s_SW)]) (q700 l Z a0 hw [] h0 n0 s_DRAW F_s_DRAW_ordinal) (lenOf pd9 rfl) (hb Y d12_65) fun T1232 L1232 v1232 X1232 hQ1232 => ?_
    obtain ⟨rfl, N1232q, e1232⟩ := hQ1232
    have N1232 := Fr.app N1225 N1232q
    refine f_iald X1232 hx hZ e1232 V_s_SW (v := (.int 2)) rfl (hb Y d12_68) <| f_tsw X1232 hx (o := 40) (pc := 69) 109 (hb Y d12_69) (by decide +kernel) (by decide +kernel) <| aN X1232 hx (hb Y d12_109) rfl rfl <| gF X1232 hx hZ hO (w17 hw) Via.refl e1232 F_c5_draws (hb Y d12_110) fun T1234 X1234 e1234 => ?_
    refine iN X1234 hx (hb Y d12_113) rfl <| f_dup2 X1234 hx (hb Y d12_114) rfl rfl <| f_iald X1234 hx hZ e1234 V_c7 (v := (.int n13_)) rfl (hb Y d12_115) <| iK X1234 hx (z := 1) (hb Y d12_116) <| iA X1234 hx (z := (n13_ + (1 : Int32))) (hb Y d12_117) (q := rfl) <| f_ist X1234 hx hZ e1234 V_c7 0 (hb Y d12_118) fun T1235 h1235 X1235 e1235 W1235 V1235 => ?_
    have N1235x := Fr.snoc X1235 N1232 (by omega : n0 ≤ c7)
    refine f_iinc X1235 hx (L' := #[(rv c5), (rv c11), (iv 1), (iv 0)]) (hb Y d12_119) rfl rfl <| gT X1235 hx (pc := 122) 135 (hb Y d12_122) <| f_iinc X1235 hx (L' := #[(rv c5), (rv c11), (iv 1), (iv 1)]) (hb Y d12_135) rfl rfl <| gT X1235 hx (pc := 138) 42 (hb Y d12_138) <| iN X1235 hx (hb Y d12_42) rfl <| aN X1235 hx (hb Y d12_43) rfl rfl ?_
    replace F_c11_s := (fo W1235 F_c11_s)
    replace E_c11 := (xw W1235 E_c11)
    refine f_face X1235 hx hZ hO (by rw [hml]; rfl) (xi := yl13) (y := y13) (w91 hw) (w92 hw) (mvT hZ (w93 hw)) (w94 hw) (w95 hw) (w96 hw) (w97 hw) (w98 hw) (w23 hw) (w99 hw) e1235 E_c11 (argsL := []) (rest := [(.int 1)]) (q580 l Z a0 hw [] h1235 n0 c11 F_c11_s) (lenOf pd9 rfl) (hb Y d12_44) fun T1236 L1236 v1236 X1236 hQ1236 => ?_
    obtain ⟨rfl, N1236q, e1236⟩ := hQ1236
    have N1236 := Fr.app N1235x N1236q
    refine cN X1236 hx (hb Y d12_49) ?_
    replace S__SwitchMap_com_example_g := (Sta.wr W1235 S__SwitchMap_com_example_g)
    refine f_getS X1236 hx hZ hO (w100 hw) e1236 S__SwitchMap_com_example_g (hb Y d12_52) fun T1238 X1238 e1238 => ?_
    refine aN X1238 hx (hb Y d12_55) rfl rfl <| iN X1238 hx (hb Y d12_56) rfl ?_
    replace F_c11_elementData := (fo W1235 F_c11_elementData)
    replace V_c12 := (vo V_c12 W1235)
    refine f_face X1238 hx hZ hO (by rw [hml]; rfl) (xi := yl18) (y := y14) (w103 hw) (w104 hw) (mvT hZ (w105 hw)) (w106 hw) (w107 hw) (w108 hw) (w109 hw) (w98 hw) (w23 hw) (w110 hw) e1238 E_c11 (argsL := [(.int 1)]) (rest := [(.ref s_SW)]) (q902 l Z a0 hw [] h1235 n0 c11 c12 kc8 s_DRAW s_LOSS F_c11_s F_c11_elementData V_c12 E_c11) (lenOf pd11 rfl) (hb Y d12_57) fun T1239 L1239 v1239 X1239 hQ1239 => ?_
    obtain ⟨rfl, N1239q, e1239⟩ := hQ1239
    have N1239 := Fr.app N1236 N1239q
    replace E_s_LOSS := (xw W1235 E_s_LOSS)
    refine f_cast1 X1239 hx hZ hO (w124 hw) e1239 (Ins.self E_s_LOSS) (hb Y d12_62) fun T1245 X1245 e1245 => ?_
    replace F_s_LOSS_ordinal := (fo W1235 F_s_LOSS_ordinal)
    refine f_up X1245 hx hZ hO (by rw [hml]; rfl) (xi := yl20) (y := y18) (owner := "java/lang/Enum") (w126 hw) (w127 hw) (w128 hw) (w130 hw) (w129 hw) (w131 hw) (w132 hw) e1245 E_s_LOSS (argsL := []) (rest := [(.ref s_SW)]) (q658 l Z a0 hw [] h1235 n0 s_LOSS F_s_LOSS_ordinal) (lenOf pd9 rfl) (hb Y d12_65) fun T1246 L1246 v1246 X1246 hQ1246 => ?_
    obtain ⟨rfl, N1246q, e1246⟩ := hQ1246
    have N1246 := Fr.app N1239 N1246q
    replace V_s_SW := (vo V_s_SW W1235)
    refine f_iald X1246 hx hZ e1246 V_s_SW (v := (.int 3)) rfl (hb Y d12_68) <| f_tsw X1246 hx (o := 56) (pc := 69) 125 (hb Y d12_69) (by decide +kernel) (by decide +kernel) <| aN X1246 hx (hb Y d12_125) rfl rfl ?_
    replace F_c5_losses := (fo W1235 F_c5_losses)
    refine gF X1246 hx hZ hO (w19 hw) Via.refl e1246 F_c5_losses (hb Y d12_126) fun T1248 X1248 e1248 => ?_
    refine iN X1248 hx (hb Y d12_129) rfl <| f_dup2 X1248 hx (hb Y d12_130) rfl rfl ?_
    replace V_c8 := (vo V_c8 W1235)
    refine f_iald X1248 hx hZ e1248 V_c8 (v := (.int n16_)) rfl (hb Y d12_131) <| iK X1248 hx (z := 1) (hb Y d12_132) <| iA X1248 hx (z := (n16_ + (1 : Int32))) (hb Y d12_133) (q := rfl) <| f_ist X1248 hx hZ e1248 V_c8 1 (hb Y d12_134) fun T1249 h1249 X1249 e1249 W1249 V1249 => ?_
    have N1249x := Fr.snoc X1249 N1246 (by omega : n0 ≤ c8)
    refine f_iinc X1249 hx (L' := #[(rv c5), (rv c11), (iv 1), (iv 2)]) (hb Y d12_135) rfl rfl <| gT X1249 hx (pc := 138) 42 (hb Y d12_138) <| iN X1249 hx (hb Y d12_42) rfl <| aN X1249 hx (hb Y d12_43) rfl rfl ?_
    replace F_c11_s := (fo W1249 F_c11_s)
    replace E_c11 := (xw W1249 E_c11)
    refine f_face X1249 hx hZ hO (by rw [hml]; rfl) (xi := yl13) (y := y13) (w91 hw) (w92 hw) (mvT hZ (w93 hw)) (w94 hw) (w95 hw) (w96 hw) (w97 hw) (w98 hw) (w23 hw) (w99 hw) e1249 E_c11 (argsL := []) (rest := [(.int 2)]) (q580 l Z a0 hw [] h1249 n0 c11 F_c11_s) (lenOf pd9 rfl) (hb Y d12_44) fun T1250 L1250 v1250 X1250 hQ1250 => ?_
    obtain ⟨rfl, N1250q, e1250⟩ := hQ1250
    have N1250 := Fr.app N1249x N1250q
    refine cY X1250 hx (pc := 49) 141 (hb Y d12_49) <| iN X1250 hx (hb Y d12_141) rfl <| aN X1250 hx (hb Y d12_142) rfl rfl <| f_face X1250 hx hZ hO (by rw [hml]; rfl) (xi := yl13) (y := y13) (w91 hw) (w92 hw) (mvT hZ (w93 hw)) (w94 hw) (w95 hw) (w96 hw) (w97 hw) (w98 hw) (w23 hw) (w99 hw) e1250 E_c11 (argsL := []) (rest := [(.int 1)]) (q580 l Z a0 hw [] h1249 n0 c11 F_c11_s) (lenOf pd9 rfl) (hb Y d12_143) fun T1252 L1252 v1252 X1252 hQ1252 => ?_
    obtain ⟨rfl, N1252q, e1252⟩ := hQ1252
    have N1252 := Fr.app N1250 N1252q
    refine cY X1252 hx (pc := 148) 161 (hb Y d12_148) <| aN X1252 hx (hb Y d12_161) rfl rfl <| f_dup X1252 hx (hb Y d12_162) rfl ?_
    replace F_c5_matches := (fo W1249 (fo W1235 F_c5_matches))
    refine gF X1252 hx hZ hO (w135 hw) Via.refl e1252 F_c5_matches (hb Y d12_163) fun T1254 X1254 e1254 => ?_
    refine iK X1254 hx (z := 1) (hb Y d12_166) <| iA X1254 hx (z := (n9_ + (1 : Int32))) (hb Y d12_167) (q := rfl) ?_
    replace E_c5 := (xw W1249 (xw W1235 E_c5))
    refine f_putF X1254 hx hZ hO (w135 hw) Via.refl e1254 F_c5_matches E_c5 (Or.inl (w136 hw)) (w6 hw) (ty := .int) (by decide) rfl rfl (hb Y d12_168) fun T1255 h1255 X1255 e1255 W1255 => ?_
    have N1255x := Fr.snoc X1255 N1252 (by omega : n0 ≤ c5)
    exact f_ret0 X1255 hx hlk hret (hb Y d12_171) (QQ := _) (by rw [e1255]; exact ⟨rfl, N1255x, (Sta.wr W1255 (Sta.wr W1249 (Sta.wr W1235 S_WIN))), (Sta.wr W1255 (Sta.wr W1249 (Sta.wr W1235 S_LOSS))), (Sta.wr W1255 (Sta.wr W1249 (Sta.wr W1235 S_DRAW))), (Sta.wr W1255 (Sta.wr W1249 S__SwitchMap_com_example_g)), (Sta.wr W1255 (Sta.wr W1249 (Sta.wr W1235 S_DEFAULTCAPACITY_EMPTY_EL))), (xw W1255 (xw W1249 (xw W1235 E_s_WIN))), (fo W1255 (fo W1249 (fo W1235 F_s_WIN_ordinal))), (xw W1255 (xw W1249 E_s_LOSS)), (fo W1255 (fo W1249 F_s_LOSS_ordinal)), (xw W1255 (xw W1249 (xw W1235 E_s_DRAW))), (fo W1255 (fo W1249 (fo W1235 F_s_DRAW_ordinal))), (vo (vo V_s_SW W1249) W1255), (vo (vo (vo V_s_EM W1235) W1249) W1255), (xw W1255 (xw W1249 (xw W1235 E_c1))), (fo W1255 (fo W1249 (fo W1235 F_c1_wins))), (fo W1255 (fo W1249 (fo W1235 F_c1_draws))), (fo W1255 (fo W1249 (fo W1235 F_c1_losses))), (fo W1255 (fo W1249 (fo W1235 F_c1_matches))), (fo W1255 (fo W1249 (fo W1235 F_c1_drawnMatches))), (vo (vo (vo V_c2 W1235) W1249) W1255), (vo (vo (vo V_c3 W1235) W1249) W1255), (vo (vo (vo V_c4 W1235) W1249) W1255), (xw W1255 E_c5), (Fld.other W1255 (fo W1249 (fo W1235 F_c5_wins)) (Or.inr (slot_ne (Or.inr (w16 hw)) (Or.inl (w136 hw)) (by decide) (t := (.array .int)) (t' := .int) (by decide) (by decide)))), (Fld.other W1255 (fo W1249 (fo W1235 F_c5_draws)) (Or.inr (slot_ne (Or.inr (w18 hw)) (Or.inl (w136 hw)) (by decide) (t := (.array .int)) (t' := .int) (by decide) (by decide)))), (Fld.other W1255 (fo W1249 F_c5_losses) (Or.inr (slot_ne (Or.inr (w20 hw)) (Or.inl (w136 hw)) (by decide) (t := (.array .int)) (t' := .int) (by decide) (by decide)))), (Fld.same W1255 F_c5_matches), (Fld.other W1255 (fo W1249 (fo W1235 F_c5_drawnMatches)) (Or.inr (slot_ne (Or.inl (w143 hw)) (Or.inl (w136 hw)) (by decide) (t := .int) (t' := .int) (by decide) (by decide)))), (vo (vo (vo V_c6 W1235) W1249) W1255), (vo (vo V1235 W1249) W1255), (vo V1249 W1255), (xw W1255 (xw W1249 (xw W1235 E_c9))), (fo W1255 (fo W1249 (fo W1235 F_c9_modCount))), (fo W1255 (fo W1249 (fo W1235 F_c9_elementData))), (fo W1255 (fo W1249 (fo W1235 F_c9_s))), (xw W1255 (xw W1249 (xw W1235 E_e0_))), (xw W1255 (xw W1249 (xw W1235 E_c10))), (vo (vo (vo V_c10 W1235) W1249) W1255), O_c10, (xw W1255 (xw W1249 (xw W1235 E_e1_))), (xw W1255 E_c11), (fo W1255 (fo W1249 (fo W1235 F_c11_modCount))), (fo W1255 (fo W1249 F_c11_elementData)), (fo W1255 F_c11_s), (xw W1255 (xw W1249 (xw W1235 E_s_DRAW))), (xw W1255 (xw W1249 (xw W1235 E_c12))), (vo (vo V_c12 W1249) W1255), O_c12, (xw W1255 (xw W1249 E_s_LOSS)), g_c1, lt_c1_c2, lt_c2_c3, lt_c3_c4, lt_c4_c5, lt_c5_c6, lt_c6_c7, lt_c7_c8, lt_c8_c9, lt_c9_c10, lt_c10_c11, lt_c11_c12, od_s_WIN, od_s_LOSS, od_s_DRAW, od_s_SW, od_s_EM, od_e0_, od_e1_, od_s_DRAW, od_s_LOSS, hv0, hv1, hv2, hv3, he0, he1, (Or.inr (Or.inr ⟨rfl, rfl⟩)), (Or.inr (Or.inl ⟨rfl, rfl⟩))⟩) (by decide) (by decide)
  · refine aN X0 hx (hb Y d12_0) rfl rfl <| f_face X0 hx hZ hO (by rw [hml]; rfl) (xi := yl13) (y := y13) (w91 hw) (w92 hw) (mvT hZ (w93 hw)) (w94 hw) (w95 hw) (w96 hw) (w97 hw) (w98 hw) (w23 hw) (w99 hw) e0 E_c11 (argsL := []) (rest := []) (q580 l Z a0 hw [] h0 n0 c11 F_c11_s) (lenOf pd9 rfl) (hb Y d12_1) fun T1256 L1256 v1256 X1256 hQ1256 => ?_
    obtain ⟨rfl, N1256q, e1256⟩ := hQ1256
    have N1256 := Fr.app N0 N1256q
    refine aN X1256 hx (hb Y d12_6) rfl rfl <| gF X1256 hx hZ hO (w15 hw) Via.refl e1256 F_c5_wins (hb Y d12_7) fun T1258 X1258 e1258 => ?_
    refine f_len X1258 hx hZ e1258 V_c6 (hb Y d12_10) <| cY X1258 hx (pc := 11) 38 (hb Y d12_11) <| iK X1258 hx (z := 0) (hb Y d12_38) <| sN X1258 hx (L' := #[(rv c5), (rv c11), (iv 0), .unset]) (hb Y d12_39) rfl <| iK X1258 hx (z := 0) (hb Y d12_40) <| sN X1258 hx (L' := #[(rv c5), (rv c11), (iv 0), (iv 0)]) (hb Y d12_41) rfl <| iN X1258 hx (hb Y d12_42) rfl <| aN X1258 hx (hb Y d12_43) rfl rfl <| f_face X1258 hx hZ hO (by rw [hml]; rfl) (xi := yl13) (y := y13) (w91 hw) (w92 hw) (mvT hZ (w93 hw)) (w94 hw) (w95 hw) (w96 hw) (w97 hw) (w98 hw) (w23 hw) (w99 hw) e1258 E_c11 (argsL := []) (rest := [(.int 0)]) (q580 l Z a0 hw [] h0 n0 c11 F_c11_s) (lenOf pd9 rfl) (hb Y d12_44) fun T1259 L1259 v1259 X1259 hQ1259 => ?_
    obtain ⟨rfl, N1259q, e1259⟩ := hQ1259
    have N1259 := Fr.app N1256 N1259q
    refine cN X1259 hx (hb Y d12_49) <| f_getS X1259 hx hZ hO (w100 hw) e1259 S__SwitchMap_com_example_g (hb Y d12_52) fun T1261 X1261 e1261 => ?_
    refine aN X1261 hx (hb Y d12_55) rfl rfl <| iN X1261 hx (hb Y d12_56) rfl <| f_face X1261 hx hZ hO (by rw [hml]; rfl) (xi := yl18) (y := y14) (w103 hw) (w104 hw) (mvT hZ (w105 hw)) (w106 hw) (w107 hw) (w108 hw) (w109 hw) (w98 hw) (w23 hw) (w110 hw) e1261 E_c11 (argsL := [(.int 0)]) (rest := [(.ref s_SW)]) (q927 l Z a0 hw [] h0 n0 c11 c12 kc8 s_DRAW F_c11_s F_c11_elementData V_c12 E_c11) (lenOf pd11 rfl) (hb Y d12_57) fun T1262 L1262 v1262 X1262 hQ1262 => ?_
    obtain ⟨rfl, N1262q, e1262⟩ := hQ1262
    have N1262 := Fr.app N1259 N1262q
    refine f_cast1 X1262 hx hZ hO (w124 hw) e1262 (Ins.self E_s_DRAW) (hb Y d12_62) fun T1268 X1268 e1268 => ?_
    refine f_up X1268 hx hZ hO (by rw [hml]; rfl) (xi := yl20) (y := y18) (owner := "java/lang/Enum") (w126 hw) (w127 hw) (w128 hw) (w130 hw) (w129 hw) (w131 hw) (w132 hw) e1268 E_s_DRAW (argsL := []) (rest := [(.ref s_SW)]) (q700 l Z a0 hw [] h0 n0 s_DRAW F_s_DRAW_ordinal) (lenOf pd9 rfl) (hb Y d12_65) fun T1269 L1269 v1269 X1269 hQ1269 => ?_
    obtain ⟨rfl, N1269q, e1269⟩ := hQ1269
    have N1269 := Fr.app N1262 N1269q
    refine f_iald X1269 hx hZ e1269 V_s_SW (v := (.int 2)) rfl (hb Y d12_68) <| f_tsw X1269 hx (o := 40) (pc := 69) 109 (hb Y d12_69) (by decide +kernel) (by decide +kernel) <| aN X1269 hx (hb Y d12_109) rfl rfl <| gF X1269 hx hZ hO (w17 hw) Via.refl e1269 F_c5_draws (hb Y d12_110) fun T1271 X1271 e1271 => ?_
    refine iN X1271 hx (hb Y d12_113) rfl <| f_dup2 X1271 hx (hb Y d12_114) rfl rfl <| f_iald X1271 hx hZ e1271 V_c7 (v := (.int n13_)) rfl (hb Y d12_115) <| iK X1271 hx (z := 1) (hb Y d12_116) <| iA X1271 hx (z := (n13_ + (1 : Int32))) (hb Y d12_117) (q := rfl) <| f_ist X1271 hx hZ e1271 V_c7 0 (hb Y d12_118) fun T1272 h1272 X1272 e1272 W1272 V1272 => ?_
    have N1272x := Fr.snoc X1272 N1269 (by omega : n0 ≤ c7)
    refine f_iinc X1272 hx (L' := #[(rv c5), (rv c11), (iv 1), (iv 0)]) (hb Y d12_119) rfl rfl <| gT X1272 hx (pc := 122) 135 (hb Y d12_122) <| f_iinc X1272 hx (L' := #[(rv c5), (rv c11), (iv 1), (iv 1)]) (hb Y d12_135) rfl rfl <| gT X1272 hx (pc := 138) 42 (hb Y d12_138) <| iN X1272 hx (hb Y d12_42) rfl <| aN X1272 hx (hb Y d12_43) rfl rfl ?_
    replace F_c11_s := (fo W1272 F_c11_s)
    replace E_c11 := (xw W1272 E_c11)
    refine f_face X1272 hx hZ hO (by rw [hml]; rfl) (xi := yl13) (y := y13) (w91 hw) (w92 hw) (mvT hZ (w93 hw)) (w94 hw) (w95 hw) (w96 hw) (w97 hw) (w98 hw) (w23 hw) (w99 hw) e1272 E_c11 (argsL := []) (rest := [(.int 1)]) (q580 l Z a0 hw [] h1272 n0 c11 F_c11_s) (lenOf pd9 rfl) (hb Y d12_44) fun T1273 L1273 v1273 X1273 hQ1273 => ?_
    obtain ⟨rfl, N1273q, e1273⟩ := hQ1273
    have N1273 := Fr.app N1272x N1273q
    refine cN X1273 hx (hb Y d12_49) ?_
    replace S__SwitchMap_com_example_g := (Sta.wr W1272 S__SwitchMap_com_example_g)
    refine f_getS X1273 hx hZ hO (w100 hw) e1273 S__SwitchMap_com_example_g (hb Y d12_52) fun T1275 X1275 e1275 => ?_
    refine aN X1275 hx (hb Y d12_55) rfl rfl <| iN X1275 hx (hb Y d12_56) rfl ?_
    replace F_c11_elementData := (fo W1272 F_c11_elementData)
    replace V_c12 := (vo V_c12 W1272)
    refine f_face X1275 hx hZ hO (by rw [hml]; rfl) (xi := yl18) (y := y14) (w103 hw) (w104 hw) (mvT hZ (w105 hw)) (w106 hw) (w107 hw) (w108 hw) (w109 hw) (w98 hw) (w23 hw) (w110 hw) e1275 E_c11 (argsL := [(.int 1)]) (rest := [(.ref s_SW)]) (q943 l Z a0 hw [] h1272 n0 c11 c12 kc8 s_DRAW F_c11_s F_c11_elementData V_c12 E_c11) (lenOf pd11 rfl) (hb Y d12_57) fun T1276 L1276 v1276 X1276 hQ1276 => ?_
    obtain ⟨rfl, N1276q, e1276⟩ := hQ1276
    have N1276 := Fr.app N1273 N1276q
    replace E_s_DRAW := (xw W1272 E_s_DRAW)
    refine f_cast1 X1276 hx hZ hO (w124 hw) e1276 (Ins.self E_s_DRAW) (hb Y d12_62) fun T1282 X1282 e1282 => ?_
    replace F_s_DRAW_ordinal := (fo W1272 F_s_DRAW_ordinal)
    refine f_up X1282 hx hZ hO (by rw [hml]; rfl) (xi := yl20) (y := y18) (owner := "java/lang/Enum") (w126 hw) (w127 hw) (w128 hw) (w130 hw) (w129 hw) (w131 hw) (w132 hw) e1282 E_s_DRAW (argsL := []) (rest := [(.ref s_SW)]) (q700 l Z a0 hw [] h1272 n0 s_DRAW F_s_DRAW_ordinal) (lenOf pd9 rfl) (hb Y d12_65) fun T1283 L1283 v1283 X1283 hQ1283 => ?_
    obtain ⟨rfl, N1283q, e1283⟩ := hQ1283
    have N1283 := Fr.app N1276 N1283q
    replace V_s_SW := (vo V_s_SW W1272)
    refine f_iald X1283 hx hZ e1283 V_s_SW (v := (.int 2)) rfl (hb Y d12_68) <| f_tsw X1283 hx (o := 40) (pc := 69) 109 (hb Y d12_69) (by decide +kernel) (by decide +kernel) <| aN X1283 hx (hb Y d12_109) rfl rfl ?_
    replace F_c5_draws := (fo W1272 F_c5_draws)
    refine gF X1283 hx hZ hO (w17 hw) Via.refl e1283 F_c5_draws (hb Y d12_110) fun T1285 X1285 e1285 => ?_
    refine iN X1285 hx (hb Y d12_113) rfl <| f_dup2 X1285 hx (hb Y d12_114) rfl rfl ?_
    replace V_c7 := V1272
    refine f_iald X1285 hx hZ e1285 V_c7 (v := (.int n14_)) rfl (hb Y d12_115) <| iK X1285 hx (z := 1) (hb Y d12_116) <| iA X1285 hx (z := (n14_ + (1 : Int32))) (hb Y d12_117) (q := rfl) <| f_ist X1285 hx hZ e1285 V_c7 1 (hb Y d12_118) fun T1286 h1286 X1286 e1286 W1286 V1286 => ?_
    have N1286x := Fr.snoc X1286 N1283 (by omega : n0 ≤ c7)
    refine f_iinc X1286 hx (L' := #[(rv c5), (rv c11), (iv 2), (iv 1)]) (hb Y d12_119) rfl rfl <| gT X1286 hx (pc := 122) 135 (hb Y d12_122) <| f_iinc X1286 hx (L' := #[(rv c5), (rv c11), (iv 2), (iv 2)]) (hb Y d12_135) rfl rfl <| gT X1286 hx (pc := 138) 42 (hb Y d12_138) <| iN X1286 hx (hb Y d12_42) rfl <| aN X1286 hx (hb Y d12_43) rfl rfl ?_
    replace F_c11_s := (fo W1286 F_c11_s)
    replace E_c11 := (xw W1286 E_c11)
    refine f_face X1286 hx hZ hO (by rw [hml]; rfl) (xi := yl13) (y := y13) (w91 hw) (w92 hw) (mvT hZ (w93 hw)) (w94 hw) (w95 hw) (w96 hw) (w97 hw) (w98 hw) (w23 hw) (w99 hw) e1286 E_c11 (argsL := []) (rest := [(.int 2)]) (q580 l Z a0 hw [] h1286 n0 c11 F_c11_s) (lenOf pd9 rfl) (hb Y d12_44) fun T1287 L1287 v1287 X1287 hQ1287 => ?_
    obtain ⟨rfl, N1287q, e1287⟩ := hQ1287
    have N1287 := Fr.app N1286x N1287q
    refine cY X1287 hx (pc := 49) 141 (hb Y d12_49) <| iN X1287 hx (hb Y d12_141) rfl <| aN X1287 hx (hb Y d12_142) rfl rfl <| f_face X1287 hx hZ hO (by rw [hml]; rfl) (xi := yl13) (y := y13) (w91 hw) (w92 hw) (mvT hZ (w93 hw)) (w94 hw) (w95 hw) (w96 hw) (w97 hw) (w98 hw) (w23 hw) (w99 hw) e1287 E_c11 (argsL := []) (rest := [(.int 2)]) (q580 l Z a0 hw [] h1286 n0 c11 F_c11_s) (lenOf pd9 rfl) (hb Y d12_143) fun T1289 L1289 v1289 X1289 hQ1289 => ?_
    obtain ⟨rfl, N1289q, e1289⟩ := hQ1289
    have N1289 := Fr.app N1287 N1289q
    refine cN X1289 hx (hb Y d12_148) <| aN X1289 hx (hb Y d12_151) rfl rfl <| f_dup X1289 hx (hb Y d12_152) rfl ?_
    replace F_c5_drawnMatches := (fo W1286 (fo W1272 F_c5_drawnMatches))
    refine gF X1289 hx hZ hO (w142 hw) Via.refl e1289 F_c5_drawnMatches (hb Y d12_153) fun T1291 X1291 e1291 => ?_
    refine iK X1291 hx (z := 1) (hb Y d12_156) <| iA X1291 hx (z := (n10_ + (1 : Int32))) (hb Y d12_157) (q := rfl) ?_
    replace E_c5 := (xw W1286 (xw W1272 E_c5))
    refine f_putF X1291 hx hZ hO (w142 hw) Via.refl e1291 F_c5_drawnMatches E_c5 (Or.inl (w143 hw)) (w6 hw) (ty := .int) (by decide) rfl rfl (hb Y d12_158) fun T1292 h1292 X1292 e1292 W1292 => ?_
    have N1292x := Fr.snoc X1292 N1289 (by omega : n0 ≤ c5)
    refine aN X1292 hx (hb Y d12_161) rfl rfl <| f_dup X1292 hx (hb Y d12_162) rfl ?_
    replace F_c5_matches := (Fld.other W1292 (fo W1286 (fo W1272 F_c5_matches)) (Or.inr (slot_ne (Or.inl (w136 hw)) (Or.inl (w143 hw)) (by decide) (t := .int) (t' := .int) (by decide) (by decide))))
    refine gF X1292 hx hZ hO (w135 hw) Via.refl e1292 F_c5_matches (hb Y d12_163) fun T1293 X1293 e1293 => ?_
    refine iK X1293 hx (z := 1) (hb Y d12_166) <| iA X1293 hx (z := (n9_ + (1 : Int32))) (hb Y d12_167) (q := rfl) ?_
    replace E_c5 := (xw W1292 E_c5)
    refine f_putF X1293 hx hZ hO (w135 hw) Via.refl e1293 F_c5_matches E_c5 (Or.inl (w136 hw)) (w6 hw) (ty := .int) (by decide) rfl rfl (hb Y d12_168) fun T1294 h1294 X1294 e1294 W1294 => ?_
    have N1294x := Fr.snoc X1294 N1292x (by omega : n0 ≤ c5)
    exact f_ret0 X1294 hx hlk hret (hb Y d12_171) (QQ := _) (by rw [e1294]; exact ⟨rfl, N1294x, (Sta.wr W1294 (Sta.wr W1292 (Sta.wr W1286 (Sta.wr W1272 S_WIN)))), (Sta.wr W1294 (Sta.wr W1292 (Sta.wr W1286 (Sta.wr W1272 S_LOSS)))), (Sta.wr W1294 (Sta.wr W1292 (Sta.wr W1286 (Sta.wr W1272 S_DRAW)))), (Sta.wr W1294 (Sta.wr W1292 (Sta.wr W1286 S__SwitchMap_com_example_g))), (Sta.wr W1294 (Sta.wr W1292 (Sta.wr W1286 (Sta.wr W1272 S_DEFAULTCAPACITY_EMPTY_EL)))), (xw W1294 (xw W1292 (xw W1286 (xw W1272 E_s_WIN)))), (fo W1294 (fo W1292 (fo W1286 (fo W1272 F_s_WIN_ordinal)))), (xw W1294 (xw W1292 (xw W1286 (xw W1272 E_s_LOSS)))), (fo W1294 (fo W1292 (fo W1286 (fo W1272 F_s_LOSS_ordinal)))), (xw W1294 (xw W1292 (xw W1286 E_s_DRAW))), (fo W1294 (fo W1292 (fo W1286 F_s_DRAW_ordinal))), (vo (vo (vo V_s_SW W1286) W1292) W1294), (vo (vo (vo (vo V_s_EM W1272) W1286) W1292) W1294), (xw W1294 (xw W1292 (xw W1286 (xw W1272 E_c1)))), (fo W1294 (fo W1292 (fo W1286 (fo W1272 F_c1_wins)))), (fo W1294 (fo W1292 (fo W1286 (fo W1272 F_c1_draws)))), (fo W1294 (fo W1292 (fo W1286 (fo W1272 F_c1_losses)))), (fo W1294 (fo W1292 (fo W1286 (fo W1272 F_c1_matches)))), (fo W1294 (fo W1292 (fo W1286 (fo W1272 F_c1_drawnMatches)))), (vo (vo (vo (vo V_c2 W1272) W1286) W1292) W1294), (vo (vo (vo (vo V_c3 W1272) W1286) W1292) W1294), (vo (vo (vo (vo V_c4 W1272) W1286) W1292) W1294), (xw W1294 E_c5), (Fld.other W1294 (Fld.other W1292 (fo W1286 (fo W1272 F_c5_wins)) (Or.inr (slot_ne (Or.inr (w16 hw)) (Or.inl (w143 hw)) (by decide) (t := (.array .int)) (t' := .int) (by decide) (by decide)))) (Or.inr (slot_ne (Or.inr (w16 hw)) (Or.inl (w136 hw)) (by decide) (t := (.array .int)) (t' := .int) (by decide) (by decide)))), (Fld.other W1294 (Fld.other W1292 (fo W1286 F_c5_draws) (Or.inr (slot_ne (Or.inr (w18 hw)) (Or.inl (w143 hw)) (by decide) (t := (.array .int)) (t' := .int) (by decide) (by decide)))) (Or.inr (slot_ne (Or.inr (w18 hw)) (Or.inl (w136 hw)) (by decide) (t := (.array .int)) (t' := .int) (by decide) (by decide)))), (Fld.other W1294 (Fld.other W1292 (fo W1286 (fo W1272 F_c5_losses)) (Or.inr (slot_ne (Or.inr (w20 hw)) (Or.inl (w143 hw)) (by decide) (t := (.array .int)) (t' := .int) (by decide) (by decide)))) (Or.inr (slot_ne (Or.inr (w20 hw)) (Or.inl (w136 hw)) (by decide) (t := (.array .int)) (t' := .int) (by decide) (by decide)))), (Fld.same W1294 F_c5_matches), (Fld.other W1294 (Fld.same W1292 F_c5_drawnMatches) (Or.inr (slot_ne (Or.inl (w143 hw)) (Or.inl (w136 hw)) (by decide) (t := .int) (t' := .int) (by decide) (by decide)))), (vo (vo (vo (vo V_c6 W1272) W1286) W1292) W1294), (vo (vo V1286 W1292) W1294), (vo (vo (vo (vo V_c8 W1272) W1286) W1292) W1294), (xw W1294 (xw W1292 (xw W1286 (xw W1272 E_c9)))), (fo W1294 (fo W1292 (fo W1286 (fo W1272 F_c9_modCount)))), (fo W1294 (fo W1292 (fo W1286 (fo W1272 F_c9_elementData)))), (fo W1294 (fo W1292 (fo W1286 (fo W1272 F_c9_s)))), (xw W1294 (xw W1292 (xw W1286 (xw W1272 E_e0_)))), (xw W1294 (xw W1292 (xw W1286 (xw W1272 E_c10)))), (vo (vo (vo (vo V_c10 W1272) W1286) W1292) W1294), O_c10, (xw W1294 (xw W1292 (xw W1286 (xw W1272 E_e1_)))), (xw W1294 (xw W1292 E_c11)), (fo W1294 (fo W1292 (fo W1286 (fo W1272 F_c11_modCount)))), (fo W1294 (fo W1292 (fo W1286 F_c11_elementData))), (fo W1294 (fo W1292 F_c11_s)), (xw W1294 (xw W1292 (xw W1286 E_s_DRAW))), (xw W1294 (xw W1292 (xw W1286 (xw W1272 E_c12)))), (vo (vo (vo V_c12 W1286) W1292) W1294), O_c12, (xw W1294 (xw W1292 (xw W1286 E_s_DRAW))), g_c1, lt_c1_c2, lt_c2_c3, lt_c3_c4, lt_c4_c5, lt_c5_c6, lt_c6_c7, lt_c7_c8, lt_c8_c9, lt_c9_c10, lt_c10_c11, lt_c11_c12, od_s_WIN, od_s_LOSS, od_s_DRAW, od_s_SW, od_s_EM, od_e0_, od_e1_, od_s_DRAW, od_s_DRAW, hv0, hv1, hv2, hv3, he0, he1, (Or.inr (Or.inr ⟨rfl, rfl⟩)), (Or.inr (Or.inr ⟨rfl, rfl⟩))⟩) (by decide) (by decide)
def St30 (Z : State) (h : Heap) (n0 : Nat) (s_WIN : Nat) (s_LOSS : Nat) (s_DRAW : Nat) (s_SW : Nat) (s_EM : Nat) (e0_ : Nat) (e1_ : Nat) (e2_ : Nat) (e3_ : Nat) (c1 : Nat) (c2 : Nat) (c3 : Nat) (c4 : Nat) (c5 : Nat) (c6 : Nat) (c7 : Nat) (c8 : Nat) (c9 : Nat) (c10 : Nat) (c11 : Nat) (c12 : Nat) (k901 : ClassId) (k902 : ClassId) (kc1 : ClassId) (kc2 : ClassId) (kc3 : ClassId) (kc4 : ClassId) (kc5 : ClassId) (kc6 : ClassId) (kc7 : ClassId) (kc8 : ClassId) (v0_ : Int32) (v1_ : Int32) (v2_ : Int32) (v3_ : Int32) : Prop :=
  Sta Z h cR "WIN" "Lcom/example/gamesmith/gamesmith/game/Result;" (.ref s_WIN) ∧
  Sta Z h cR "LOSS" "Lcom/example/gamesmith/gamesmith/game/Result;" (.ref s_LOSS) ∧
  Sta Z h cR "DRAW" "Lcom/example/gamesmith/gamesmith/game/Result;" (.ref s_DRAW) ∧
  Sta Z h "com/example/gamesmith/gamesmith/arena/Tally$1" "$SwitchMap$com$example$gamesmith$gamesmith$game$Result" "[I" (.ref s_SW) ∧
  Sta Z h cA "DEFAULTCAPACITY_EMPTY_ELEMENTDATA" "[Ljava/lang/Object;" (.ref s_EM) ∧
  Exa Z h s_WIN cR ∧
  Fld Z h s_WIN "java/lang/Enum" "ordinal" "I" (.int 0) ∧
  Exa Z h s_LOSS cR ∧
  Fld Z h s_LOSS "java/lang/Enum" "ordinal" "I" (.int 1) ∧
  Exa Z h s_DRAW cR ∧
  Fld Z h s_DRAW "java/lang/Enum" "ordinal" "I" (.int 2) ∧
  Arv Z h s_SW k901 .int 3 [(.int 1), (.int 3), (.int 2)] (.int 0) ∧
  Arv Z h s_EM k902 (.object "java/lang/Object") 0 [] .null ∧
  Exa Z h c1 cT ∧
  Fld Z h c1 cT "wins" "[I" (.ref c2) ∧
  Fld Z h c1 cT "draws" "[I" (.ref c3) ∧
  Fld Z h c1 cT "losses" "[I" (.ref c4) ∧
  Fld Z h c1 cT "matches" "I" (.int ((0 : Int32) + (1 : Int32))) ∧
  Fld Z h c1 cT "drawnMatches" "I" (.int (bumpD (0 : Int32) v0_ v1_)) ∧
  Arv Z h c2 kc1 .int 2 [(.int (bump (0 : Int32) v0_ 0)), (.int (bump (0 : Int32) v1_ 0))] (.int 0) ∧
  Arv Z h c3 kc2 .int 2 [(.int (bump (0 : Int32) v0_ 2)), (.int (bump (0 : Int32) v1_ 2))] (.int 0) ∧
  Arv Z h c4 kc3 .int 2 [(.int (bump (0 : Int32) v0_ 1)), (.int (bump (0 : Int32) v1_ 1))] (.int 0) ∧
  Exa Z h c5 cT ∧
  Fld Z h c5 cT "wins" "[I" (.ref c6) ∧
  Fld Z h c5 cT "draws" "[I" (.ref c7) ∧
  Fld Z h c5 cT "losses" "[I" (.ref c8) ∧
  Fld Z h c5 cT "matches" "I" (.int ((0 : Int32) + (1 : Int32))) ∧
  Fld Z h c5 cT "drawnMatches" "I" (.int (bumpD (0 : Int32) v2_ v3_)) ∧
  Arv Z h c6 kc4 .int 2 [(.int (bump (0 : Int32) v2_ 0)), (.int (bump (0 : Int32) v3_ 0))] (.int 0) ∧
  Arv Z h c7 kc5 .int 2 [(.int (bump (0 : Int32) v2_ 2)), (.int (bump (0 : Int32) v3_ 2))] (.int 0) ∧
  Arv Z h c8 kc6 .int 2 [(.int (bump (0 : Int32) v2_ 1)), (.int (bump (0 : Int32) v3_ 1))] (.int 0) ∧
  Exa Z h c9 cA ∧
  Fld Z h c9 "java/util/AbstractList" "modCount" "I" (.int 2) ∧
  Fld Z h c9 cA "elementData" "[Ljava/lang/Object;" (.ref c10) ∧
  Fld Z h c9 cA "size" "I" (.int 2) ∧
  Exa Z h e0_ cR ∧
  Exa Z h c10 "[Ljava/lang/Object;" ∧
  Arv Z h c10 kc7 (.object "java/lang/Object") 10 [(.ref e0_), (.ref e1_), .null, .null, .null, .null, .null, .null, .null, .null] .null ∧
  Ovr Z kc7 "java/lang/Object" ∧
  Exa Z h e1_ cR ∧
  Exa Z h c11 cA ∧
  Fld Z h c11 "java/util/AbstractList" "modCount" "I" (.int 2) ∧
  Fld Z h c11 cA "elementData" "[Ljava/lang/Object;" (.ref c12) ∧
  Fld Z h c11 cA "size" "I" (.int 2) ∧
  Exa Z h e2_ cR ∧
  Exa Z h c12 "[Ljava/lang/Object;" ∧
  Arv Z h c12 kc8 (.object "java/lang/Object") 10 [(.ref e2_), (.ref e3_), .null, .null, .null, .null, .null, .null, .null, .null] .null ∧
  Ovr Z kc8 "java/lang/Object" ∧
  Exa Z h e3_ cR ∧
  n0 ≤ c1 ∧
  c1 < c2 ∧
  c2 < c3 ∧
  c3 < c4 ∧
  c4 < c5 ∧
  c5 < c6 ∧
  c6 < c7 ∧
  c7 < c8 ∧
  c8 < c9 ∧
  c9 < c10 ∧
  c10 < c11 ∧
  c11 < c12 ∧
  s_WIN < n0 ∧
  s_LOSS < n0 ∧
  s_DRAW < n0 ∧
  s_SW < n0 ∧
  s_EM < n0 ∧
  e0_ < n0 ∧
  e1_ < n0 ∧
  e2_ < n0 ∧
  e3_ < n0
def St31 (Z : State) (h : Heap) (n0 : Nat) (s_WIN : Nat) (s_LOSS : Nat) (s_DRAW : Nat) (s_SW : Nat) (s_EM : Nat) (e0_ : Nat) (e1_ : Nat) (e2_ : Nat) (e3_ : Nat) (c1 : Nat) (c2 : Nat) (c3 : Nat) (c4 : Nat) (c5 : Nat) (c6 : Nat) (c7 : Nat) (c8 : Nat) (c9 : Nat) (c10 : Nat) (c11 : Nat) (c12 : Nat) (k901 : ClassId) (k902 : ClassId) (kc1 : ClassId) (kc2 : ClassId) (kc3 : ClassId) (kc4 : ClassId) (kc5 : ClassId) (kc6 : ClassId) (kc7 : ClassId) (kc8 : ClassId) (v0_ : Int32) (v1_ : Int32) (v2_ : Int32) (v3_ : Int32) : Prop :=
  Sta Z h cR "WIN" "Lcom/example/gamesmith/gamesmith/game/Result;" (.ref s_WIN) ∧
  Sta Z h cR "LOSS" "Lcom/example/gamesmith/gamesmith/game/Result;" (.ref s_LOSS) ∧
  Sta Z h cR "DRAW" "Lcom/example/gamesmith/gamesmith/game/Result;" (.ref s_DRAW) ∧
  Sta Z h "com/example/gamesmith/gamesmith/arena/Tally$1" "$SwitchMap$com$example$gamesmith$gamesmith$game$Result" "[I" (.ref s_SW) ∧
  Sta Z h cA "DEFAULTCAPACITY_EMPTY_ELEMENTDATA" "[Ljava/lang/Object;" (.ref s_EM) ∧
  Exa Z h s_WIN cR ∧
  Fld Z h s_WIN "java/lang/Enum" "ordinal" "I" (.int 0) ∧
  Exa Z h s_LOSS cR ∧
  Fld Z h s_LOSS "java/lang/Enum" "ordinal" "I" (.int 1) ∧
  Exa Z h s_DRAW cR ∧
  Fld Z h s_DRAW "java/lang/Enum" "ordinal" "I" (.int 2) ∧
  Arv Z h s_SW k901 .int 3 [(.int 1), (.int 3), (.int 2)] (.int 0) ∧
  Arv Z h s_EM k902 (.object "java/lang/Object") 0 [] .null ∧
  Exa Z h c1 cT ∧
  Fld Z h c1 cT "wins" "[I" (.ref c2) ∧
  Fld Z h c1 cT "draws" "[I" (.ref c3) ∧
  Fld Z h c1 cT "losses" "[I" (.ref c4) ∧
  Fld Z h c1 cT "matches" "I" (.int (((0 : Int32) + (1 : Int32)) + ((0 : Int32) + (1 : Int32)))) ∧
  Fld Z h c1 cT "drawnMatches" "I" (.int ((bumpD (0 : Int32) v0_ v1_) + (bumpD (0 : Int32) v2_ v3_))) ∧
  Arv Z h c2 kc1 .int 2 [(.int ((bump (0 : Int32) v0_ 0) + (bump (0 : Int32) v2_ 0))), (.int ((bump (0 : Int32) v1_ 0) + (bump (0 : Int32) v3_ 0)))] (.int 0) ∧
  Arv Z h c3 kc2 .int 2 [(.int ((bump (0 : Int32) v0_ 2) + (bump (0 : Int32) v2_ 2))), (.int ((bump (0 : Int32) v1_ 2) + (bump (0 : Int32) v3_ 2)))] (.int 0) ∧
  Arv Z h c4 kc3 .int 2 [(.int ((bump (0 : Int32) v0_ 1) + (bump (0 : Int32) v2_ 1))), (.int ((bump (0 : Int32) v1_ 1) + (bump (0 : Int32) v3_ 1)))] (.int 0) ∧
  Exa Z h c5 cT ∧
  Fld Z h c5 cT "wins" "[I" (.ref c6) ∧
  Fld Z h c5 cT "draws" "[I" (.ref c7) ∧
  Fld Z h c5 cT "losses" "[I" (.ref c8) ∧
  Fld Z h c5 cT "matches" "I" (.int ((0 : Int32) + (1 : Int32))) ∧
  Fld Z h c5 cT "drawnMatches" "I" (.int (bumpD (0 : Int32) v2_ v3_)) ∧
  Arv Z h c6 kc4 .int 2 [(.int (bump (0 : Int32) v2_ 0)), (.int (bump (0 : Int32) v3_ 0))] (.int 0) ∧
  Arv Z h c7 kc5 .int 2 [(.int (bump (0 : Int32) v2_ 2)), (.int (bump (0 : Int32) v3_ 2))] (.int 0) ∧
  Arv Z h c8 kc6 .int 2 [(.int (bump (0 : Int32) v2_ 1)), (.int (bump (0 : Int32) v3_ 1))] (.int 0) ∧
  Exa Z h c9 cA ∧
  Fld Z h c9 "java/util/AbstractList" "modCount" "I" (.int 2) ∧
  Fld Z h c9 cA "elementData" "[Ljava/lang/Object;" (.ref c10) ∧
  Fld Z h c9 cA "size" "I" (.int 2) ∧
  Exa Z h e0_ cR ∧
  Exa Z h c10 "[Ljava/lang/Object;" ∧
  Arv Z h c10 kc7 (.object "java/lang/Object") 10 [(.ref e0_), (.ref e1_), .null, .null, .null, .null, .null, .null, .null, .null] .null ∧
  Ovr Z kc7 "java/lang/Object" ∧
  Exa Z h e1_ cR ∧
  Exa Z h c11 cA ∧
  Fld Z h c11 "java/util/AbstractList" "modCount" "I" (.int 2) ∧
  Fld Z h c11 cA "elementData" "[Ljava/lang/Object;" (.ref c12) ∧
  Fld Z h c11 cA "size" "I" (.int 2) ∧
  Exa Z h e2_ cR ∧
  Exa Z h c12 "[Ljava/lang/Object;" ∧
  Arv Z h c12 kc8 (.object "java/lang/Object") 10 [(.ref e2_), (.ref e3_), .null, .null, .null, .null, .null, .null, .null, .null] .null ∧
  Ovr Z kc8 "java/lang/Object" ∧
  Exa Z h e3_ cR ∧
  n0 ≤ c1 ∧
  c1 < c2 ∧
  c2 < c3 ∧
  c3 < c4 ∧
  c4 < c5 ∧
  c5 < c6 ∧
  c6 < c7 ∧
  c7 < c8 ∧
  c8 < c9 ∧
  c9 < c10 ∧
  c10 < c11 ∧
  c11 < c12 ∧
  s_WIN < n0 ∧
  s_LOSS < n0 ∧
  s_DRAW < n0 ∧
  s_SW < n0 ∧
  s_EM < n0 ∧
  e0_ < n0 ∧
  e1_ < n0 ∧
  e2_ < n0 ∧
  e3_ < n0
def Qm1351 (Z : State) (n0 : Nat) (s_WIN : Nat) (s_LOSS : Nat) (s_DRAW : Nat) (s_SW : Nat) (s_EM : Nat) (e0_ : Nat) (e1_ : Nat) (e2_ : Nat) (e3_ : Nat) (c1 : Nat) (c2 : Nat) (c3 : Nat) (c4 : Nat) (c5 : Nat) (c6 : Nat) (c7 : Nat) (c8 : Nat) (c9 : Nat) (c10 : Nat) (c11 : Nat) (c12 : Nat) (k901 : ClassId) (k902 : ClassId) (kc1 : ClassId) (kc2 : ClassId) (kc3 : ClassId) (kc4 : ClassId) (kc5 : ClassId) (kc6 : ClassId) (kc7 : ClassId) (kc8 : ClassId) (v0_ : Int32) (v1_ : Int32) (v2_ : Int32) (v3_ : Int32) (v : Option Value) (h : Heap) (L : List Loc) : Prop := v = none ∧ Fr n0 L ∧ St31 Z h n0 s_WIN s_LOSS s_DRAW s_SW s_EM e0_ e1_ e2_ e3_ c1 c2 c3 c4 c5 c6 c7 c8 c9 c10 c11 c12 k901 k902 kc1 kc2 kc3 kc4 kc5 kc6 kc7 kc8 v0_ v1_ v2_ v3_
theorem m1351 (l : Launch) (Z : State) (a0 : Array Value) (hw : HW a0 Z) (ws : List Jvm.Cond) (h0 : Heap) (n0 : Nat) (s_WIN : Nat) (s_LOSS : Nat) (s_DRAW : Nat) (s_SW : Nat) (s_EM : Nat) (e0_ : Nat) (e1_ : Nat) (e2_ : Nat) (e3_ : Nat) (c1 : Nat) (c2 : Nat) (c3 : Nat) (c4 : Nat) (c5 : Nat) (c6 : Nat) (c7 : Nat) (c8 : Nat) (c9 : Nat) (c10 : Nat) (c11 : Nat) (c12 : Nat) (k901 : ClassId) (k902 : ClassId) (kc1 : ClassId) (kc2 : ClassId) (kc3 : ClassId) (kc4 : ClassId) (kc5 : ClassId) (kc6 : ClassId) (kc7 : ClassId) (kc8 : ClassId) (v0_ : Int32) (v1_ : Int32) (v2_ : Int32) (v3_ : Int32) (P : St30 Z h0 n0 s_WIN s_LOSS s_DRAW s_SW s_EM e0_ e1_ e2_ e3_ c1 c2 c3 c4 c5 c6 c7 c8 c9 c10 c11 c12 k901 k902 kc1 kc2 kc3 kc4 kc5 kc6 kc7 kc8 v0_ v1_ v2_ v3_) :
    MC l Z y19 prog_6_method_3_code 3 none ws rm_0_0_0_0 #[(.ref c1), (.ref c5)] h0 (Qm1351 Z n0 s_WIN s_LOSS s_DRAW s_SW s_EM e0_ e1_ e2_ e3_ c1 c2 c3 c4 c5 c6 c7 c8 c9 c10 c11 c12 k901 k902 kc1 kc2 kc3 kc4 kc5 kc6 kc7 kc8 v0_ v1_ v2_ v3_) := by
  obtain ⟨S_WIN, S_LOSS, S_DRAW, S__SwitchMap_com_example_g, S_DEFAULTCAPACITY_EMPTY_EL, E_s_WIN, F_s_WIN_ordinal, E_s_LOSS, F_s_LOSS_ordinal, E_s_DRAW, F_s_DRAW_ordinal, V_s_SW, V_s_EM, E_c1, F_c1_wins, F_c1_draws, F_c1_losses, F_c1_matches, F_c1_drawnMatches, V_c2, V_c3, V_c4, E_c5, F_c5_wins, F_c5_draws, F_c5_losses, F_c5_matches, F_c5_drawnMatches, V_c6, V_c7, V_c8, E_c9, F_c9_modCount, F_c9_elementData, F_c9_s, E_e0_, E_c10, V_c10, O_c10, E_e1_, E_c11, F_c11_modCount, F_c11_elementData, F_c11_s, E_e2_, E_c12, V_c12, O_c12, E_e3_, g_c1, lt_c1_c2, lt_c2_c3, lt_c3_c4, lt_c4_c5, lt_c5_c6, lt_c6_c7, lt_c7_c8, lt_c8_c9, lt_c9_c10, lt_c10_c11, lt_c11_c12, od_s_WIN, od_s_LOSS, od_s_DRAW, od_s_SW, od_s_EM, od_e0_, od_e1_, od_e2_, od_e3_⟩ := id P
  refine own_met (plainFor_of_name pn19) fun p e s m below meth c s₁ X0 hx hZ Y hml hO hnm hlk hret e0 => f_cast (f' := mkF m 0 #[(rv c1), (rv c5), .unset] []) (by first | (simp [entryFrame, mkF, argsToLocals, Value.category]; done) | rfl) ?_
  have N0 := Fr.nil n0
  refine iK X0 hx (z := 0) (hb Y d19_0) <| sN X0 hx (L' := #[(rv c1), (rv c5), (iv 0)]) (hb Y d19_1) rfl <| iN X0 hx (hb Y d19_2) rfl <| aN X0 hx (hb Y d19_3) rfl rfl <| gF X0 hx hZ hO (w15 hw) Via.refl e0 F_c1_wins (hb Y d19_4) fun T1324 X1324 e1324 => ?_
  refine f_len X1324 hx hZ e1324 V_c2 (hb Y d19_7) <| cN X1324 hx (hb Y d19_8) <| aN X1324 hx (hb Y d19_11) rfl rfl <| gF X1324 hx hZ hO (w15 hw) Via.refl e1324 F_c1_wins (hb Y d19_12) fun T1325 X1325 e1325 => ?_
  refine iN X1325 hx (hb Y d19_15) rfl <| f_dup2 X1325 hx (hb Y d19_16) rfl rfl <| f_iald X1325 hx hZ e1325 V_c2 (v := (.int (bump (0 : Int32) v0_ 0))) rfl (hb Y d19_17) <| aN X1325 hx (hb Y d19_18) rfl rfl <| gF X1325 hx hZ hO (w15 hw) Via.refl e1325 F_c5_wins (hb Y d19_19) fun T1326 X1326 e1326 => ?_
  refine iN X1326 hx (hb Y d19_22) rfl <| f_iald X1326 hx hZ e1326 V_c6 (v := (.int (bump (0 : Int32) v2_ 0))) rfl (hb Y d19_23) <| iA X1326 hx (z := ((bump (0 : Int32) v0_ 0) + (bump (0 : Int32) v2_ 0))) (hb Y d19_24) (q := rfl) <| f_ist X1326 hx hZ e1326 V_c2 0 (hb Y d19_25) fun T1327 h1327 X1327 e1327 W1327 V1327 => ?_
  have N1327x := Fr.snoc X1327 N0 (by omega : n0 ≤ c2)
  refine aN X1327 hx (hb Y d19_26) rfl rfl ?_
  replace F_c1_draws := (fo W1327 F_c1_draws)
  refine gF X1327 hx hZ hO (w17 hw) Via.refl e1327 F_c1_draws (hb Y d19_27) fun T1328 X1328 e1328 => ?_
  refine iN X1328 hx (hb Y d19_30) rfl <| f_dup2 X1328 hx (hb Y d19_31) rfl rfl ?_
  replace V_c3 := (vo V_c3 W1327)
  refine f_iald X1328 hx hZ e1328 V_c3 (v := (.int (bump (0 : Int32) v0_ 2))) rfl (hb Y d19_32) <| aN X1328 hx (hb Y d19_33) rfl rfl ?_
  replace F_c5_draws := (fo W1327 F_c5_draws)
  refine gF X1328 hx hZ hO (w17 hw) Via.refl e1328 F_c5_draws (hb Y d19_34) fun T1329 X1329 e1329 => ?_
  refine iN X1329 hx (hb Y d19_37) rfl ?_
  replace V_c7 := (vo V_c7 W1327)
  refine f_iald X1329 hx hZ e1329 V_c7 (v := (.int (bump (0 : Int32) v2_ 2))) rfl (hb Y d19_38) <| iA X1329 hx (z := ((bump (0 : Int32) v0_ 2) + (bump (0 : Int32) v2_ 2))) (hb Y d19_39) (q := rfl) <| f_ist X1329 hx hZ e1329 V_c3 0 (hb Y d19_40) fun T1330 h1330 X1330 e1330 W1330 V1330 => ?_
  have N1330x := Fr.snoc X1330 N1327x (by omega : n0 ≤ c3)
  refine aN X1330 hx (hb Y d19_41) rfl rfl ?_
  replace F_c1_losses := (fo W1330 (fo W1327 F_c1_losses))
  refine gF X1330 hx hZ hO (w19 hw) Via.refl e1330 F_c1_losses (hb Y d19_42) fun T1331 X1331 e1331 => ?_
  refine iN X1331 hx (hb Y d19_45) rfl <| f_dup2 X1331 hx (hb Y d19_46) rfl rfl ?_
  replace V_c4 := (vo (vo V_c4 W1327) W1330)
  refine f_iald X1331 hx hZ e1331 V_c4 (v := (.int (bump (0 : Int32) v0_ 1))) rfl (hb Y d19_47) <| aN X1331 hx (hb Y d19_48) rfl rfl ?_
  replace F_c5_losses := (fo W1330 (fo W1327 F_c5_losses))
  refine gF X1331 hx hZ hO (w19 hw) Via.refl e1331 F_c5_losses (hb Y d19_49) fun T1332 X1332 e1332 => ?_
  refine iN X1332 hx (hb Y d19_52) rfl ?_
  replace V_c8 := (vo (vo V_c8 W1327) W1330)
  refine f_iald X1332 hx hZ e1332 V_c8 (v := (.int (bump (0 : Int32) v2_ 1))) rfl (hb Y d19_53) <| iA X1332 hx (z := ((bump (0 : Int32) v0_ 1) + (bump (0 : Int32) v2_ 1))) (hb Y d19_54) (q := rfl) <| f_ist X1332 hx hZ e1332 V_c4 0 (hb Y d19_55) fun T1333 h1333 X1333 e1333 W1333 V1333 => ?_
  have N1333x := Fr.snoc X1333 N1330x (by omega : n0 ≤ c4)
  refine f_iinc X1333 hx (L' := #[(rv c1), (rv c5), (iv 1)]) (hb Y d19_56) rfl rfl <| gT X1333 hx (pc := 59) 2 (hb Y d19_59) <| iN X1333 hx (hb Y d19_2) rfl <| aN X1333 hx (hb Y d19_3) rfl rfl ?_
  replace F_c1_wins := (fo W1333 (fo W1330 (fo W1327 F_c1_wins)))
  refine gF X1333 hx hZ hO (w15 hw) Via.refl e1333 F_c1_wins (hb Y d19_4) fun T1334 X1334 e1334 => ?_
  replace V_c2 := (vo (vo V1327 W1330) W1333)
  refine f_len X1334 hx hZ e1334 V_c2 (hb Y d19_7) <| cN X1334 hx (hb Y d19_8) <| aN X1334 hx (hb Y d19_11) rfl rfl <| gF X1334 hx hZ hO (w15 hw) Via.refl e1334 F_c1_wins (hb Y d19_12) fun T1335 X1335 e1335 => ?_
  refine iN X1335 hx (hb Y d19_15) rfl <| f_dup2 X1335 hx (hb Y d19_16) rfl rfl <| f_iald X1335 hx hZ e1335 V_c2 (v := (.int (bump (0 : Int32) v1_ 0))) rfl (hb Y d19_17) <| aN X1335 hx (hb Y d19_18) rfl rfl ?_
  replace F_c5_wins := (fo W1333 (fo W1330 (fo W1327 F_c5_wins)))
  refine gF X1335 hx hZ hO (w15 hw) Via.refl e1335 F_c5_wins (hb Y d19_19) fun T1336 X1336 e1336 => ?_
  refine iN X1336 hx (hb Y d19_22) rfl ?_
  replace V_c6 := (vo (vo (vo V_c6 W1327) W1330) W1333)
  refine f_iald X1336 hx hZ e1336 V_c6 (v := (.int (bump (0 : Int32) v3_ 0))) rfl (hb Y d19_23) <| iA X1336 hx (z := ((bump (0 : Int32) v1_ 0) + (bump (0 : Int32) v3_ 0))) (hb Y d19_24) (q := rfl) <| f_ist X1336 hx hZ e1336 V_c2 1 (hb Y d19_25) fun T1337 h1337 X1337 e1337 W1337 V1337 => ?_
  have N1337x := Fr.snoc X1337 N1333x (by omega : n0 ≤ c2)
  refine aN X1337 hx (hb Y d19_26) rfl rfl ?_
  replace F_c1_draws := (fo W1337 (fo W1333 (fo W1330 F_c1_draws)))
  refine gF X1337 hx hZ hO (w17 hw) Via.refl e1337 F_c1_draws (hb Y d19_27) fun T1338 X1338 e1338 => ?_
  refine iN X1338 hx (hb Y d19_30) rfl <| f_dup2 X1338 hx (hb Y d19_31) rfl rfl ?_
  replace V_c3 := (vo (vo V1330 W1333) W1337)
  refine f_iald X1338 hx hZ e1338 V_c3 (v := (.int (bump (0 : Int32) v1_ 2))) rfl (hb Y d19_32) <| aN X1338 hx (hb Y d19_33) rfl rfl ?_
  replace F_c5_draws := (fo W1337 (fo W1333 (fo W1330 F_c5_draws)))
  refine gF X1338 hx hZ hO (w17 hw) Via.refl e1338 F_c5_draws (hb Y d19_34) fun T1339 X1339 e1339 => ?_
  refine iN X1339 hx (hb Y d19_37) rfl ?_
  replace V_c7 := (vo (vo (vo V_c7 W1330) W1333) W1337)
  refine f_iald X1339 hx hZ e1339 V_c7 (v := (.int (bump (0 : Int32) v3_ 2))) rfl (hb Y d19_38) <| iA X1339 hx (z := ((bump (0 : Int32) v1_ 2) + (bump (0 : Int32) v3_ 2))) (hb Y d19_39) (q := rfl) <| f_ist X1339 hx hZ e1339 V_c3 1 (hb Y d19_40) fun T1340 h1340 X1340 e1340 W1340 V1340 => ?_
  have N1340x := Fr.snoc X1340 N1337x (by omega : n0 ≤ c3)
  refine aN X1340 hx (hb Y d19_41) rfl rfl ?_
  replace F_c1_losses := (fo W1340 (fo W1337 (fo W1333 F_c1_losses)))
  refine gF X1340 hx hZ hO (w19 hw) Via.refl e1340 F_c1_losses (hb Y d19_42) fun T1341 X1341 e1341 => ?_
  refine iN X1341 hx (hb Y d19_45) rfl <| f_dup2 X1341 hx (hb Y d19_46) rfl rfl ?_
  replace V_c4 := (vo (vo V1333 W1337) W1340)
  refine f_iald X1341 hx hZ e1341 V_c4 (v := (.int (bump (0 : Int32) v1_ 1))) rfl (hb Y d19_47) <| aN X1341 hx (hb Y d19_48) rfl rfl ?_
  replace F_c5_losses := (fo W1340 (fo W1337 (fo W1333 F_c5_losses)))
  refine gF X1341 hx hZ hO (w19 hw) Via.refl e1341 F_c5_losses (hb Y d19_49) fun T1342 X1342 e1342 => ?_
  refine iN X1342 hx (hb Y d19_52) rfl ?_
  replace V_c8 := (vo (vo (vo V_c8 W1333) W1337) W1340)
  refine f_iald X1342 hx hZ e1342 V_c8 (v := (.int (bump (0 : Int32) v3_ 1))) rfl (hb Y d19_53) <| iA X1342 hx (z := ((bump (0 : Int32) v1_ 1) + (bump (0 : Int32) v3_ 1))) (hb Y d19_54) (q := rfl) <| f_ist X1342 hx hZ e1342 V_c4 1 (hb Y d19_55) fun T1343 h1343 X1343 e1343 W1343 V1343 => ?_
  have N1343x := Fr.snoc X1343 N1340x (by omega : n0 ≤ c4)
  refine f_iinc X1343 hx (L' := #[(rv c1), (rv c5), (iv 2)]) (hb Y d19_56) rfl rfl <| gT X1343 hx (pc := 59) 2 (hb Y d19_59) <| iN X1343 hx (hb Y d19_2) rfl <| aN X1343 hx (hb Y d19_3) rfl rfl ?_
  replace F_c1_wins := (fo W1343 (fo W1340 (fo W1337 F_c1_wins)))
  refine gF X1343 hx hZ hO (w15 hw) Via.refl e1343 F_c1_wins (hb Y d19_4) fun T1344 X1344 e1344 => ?_
  replace V_c2 := (vo (vo V1337 W1340) W1343)
  refine f_len X1344 hx hZ e1344 V_c2 (hb Y d19_7) <| cY X1344 hx (pc := 8) 62 (hb Y d19_8) <| aN X1344 hx (hb Y d19_62) rfl rfl <| f_dup X1344 hx (hb Y d19_63) rfl ?_
  replace F_c1_matches := (fo W1343 (fo W1340 (fo W1337 (fo W1333 (fo W1330 (fo W1327 F_c1_matches))))))
  refine gF X1344 hx hZ hO (w135 hw) Via.refl e1344 F_c1_matches (hb Y d19_64) fun T1345 X1345 e1345 => ?_
  refine aN X1345 hx (hb Y d19_67) rfl rfl ?_
  replace F_c5_matches := (fo W1343 (fo W1340 (fo W1337 (fo W1333 (fo W1330 (fo W1327 F_c5_matches))))))
  refine gF X1345 hx hZ hO (w135 hw) Via.refl e1345 F_c5_matches (hb Y d19_68) fun T1346 X1346 e1346 => ?_
  refine iA X1346 hx (z := (((0 : Int32) + (1 : Int32)) + ((0 : Int32) + (1 : Int32)))) (hb Y d19_71) (q := rfl) ?_
  replace E_c1 := (xw W1343 (xw W1340 (xw W1337 (xw W1333 (xw W1330 (xw W1327 E_c1))))))
  refine f_putF X1346 hx hZ hO (w135 hw) Via.refl e1346 F_c1_matches E_c1 (Or.inl (w136 hw)) (w6 hw) (ty := .int) (by decide) rfl rfl (hb Y d19_72) fun T1347 h1347 X1347 e1347 W1347 => ?_
  have N1347x := Fr.snoc X1347 N1343x (by omega : n0 ≤ c1)
  refine aN X1347 hx (hb Y d19_75) rfl rfl <| f_dup X1347 hx (hb Y d19_76) rfl ?_
  replace F_c1_drawnMatches := (Fld.other W1347 (fo W1343 (fo W1340 (fo W1337 (fo W1333 (fo W1330 (fo W1327 F_c1_drawnMatches)))))) (Or.inr (slot_ne (Or.inl (w143 hw)) (Or.inl (w136 hw)) (by decide) (t := .int) (t' := .int) (by decide) (by decide))))
  refine gF X1347 hx hZ hO (w142 hw) Via.refl e1347 F_c1_drawnMatches (hb Y d19_77) fun T1348 X1348 e1348 => ?_
  refine aN X1348 hx (hb Y d19_80) rfl rfl ?_
  replace F_c5_drawnMatches := (fo W1347 (fo W1343 (fo W1340 (fo W1337 (fo W1333 (fo W1330 (fo W1327 F_c5_drawnMatches)))))))
  refine gF X1348 hx hZ hO (w142 hw) Via.refl e1348 F_c5_drawnMatches (hb Y d19_81) fun T1349 X1349 e1349 => ?_
  refine iA X1349 hx (z := ((bumpD (0 : Int32) v0_ v1_) + (bumpD (0 : Int32) v2_ v3_))) (hb Y d19_84) (q := rfl) ?_
  replace E_c1 := (xw W1347 E_c1)
  refine f_putF X1349 hx hZ hO (w142 hw) Via.refl e1349 F_c1_drawnMatches E_c1 (Or.inl (w143 hw)) (w6 hw) (ty := .int) (by decide) rfl rfl (hb Y d19_85) fun T1350 h1350 X1350 e1350 W1350 => ?_
  have N1350x := Fr.snoc X1350 N1347x (by omega : n0 ≤ c1)
  exact f_ret0 X1350 hx hlk hret (hb Y d19_88) (QQ := (Qm1351 Z n0 s_WIN s_LOSS s_DRAW s_SW s_EM e0_ e1_ e2_ e3_ c1 c2 c3 c4 c5 c6 c7 c8 c9 c10 c11 c12 k901 k902 kc1 kc2 kc3 kc4 kc5 kc6 kc7 kc8 v0_ v1_ v2_ v3_)) (by rw [e1350]; exact ⟨rfl, N1350x, (Sta.wr W1350 (Sta.wr W1347 (Sta.wr W1343 (Sta.wr W1340 (Sta.wr W1337 (Sta.wr W1333 (Sta.wr W1330 (Sta.wr W1327 S_WIN)))))))), (Sta.wr W1350 (Sta.wr W1347 (Sta.wr W1343 (Sta.wr W1340 (Sta.wr W1337 (Sta.wr W1333 (Sta.wr W1330 (Sta.wr W1327 S_LOSS)))))))), (Sta.wr W1350 (Sta.wr W1347 (Sta.wr W1343 (Sta.wr W1340 (Sta.wr W1337 (Sta.wr W1333 (Sta.wr W1330 (Sta.wr W1327 S_DRAW)))))))), (Sta.wr W1350 (Sta.wr W1347 (Sta.wr W1343 (Sta.wr W1340 (Sta.wr W1337 (Sta.wr W1333 (Sta.wr W1330 (Sta.wr W1327 S__SwitchMap_com_example_g)))))))), (Sta.wr W1350 (Sta.wr W1347 (Sta.wr W1343 (Sta.wr W1340 (Sta.wr W1337 (Sta.wr W1333 (Sta.wr W1330 (Sta.wr W1327 S_DEFAULTCAPACITY_EMPTY_EL)))))))), (xw W1350 (xw W1347 (xw W1343 (xw W1340 (xw W1337 (xw W1333 (xw W1330 (xw W1327 E_s_WIN)))))))), (fo W1350 (fo W1347 (fo W1343 (fo W1340 (fo W1337 (fo W1333 (fo W1330 (fo W1327 F_s_WIN_ordinal)))))))), (xw W1350 (xw W1347 (xw W1343 (xw W1340 (xw W1337 (xw W1333 (xw W1330 (xw W1327 E_s_LOSS)))))))), (fo W1350 (fo W1347 (fo W1343 (fo W1340 (fo W1337 (fo W1333 (fo W1330 (fo W1327 F_s_LOSS_ordinal)))))))), (xw W1350 (xw W1347 (xw W1343 (xw W1340 (xw W1337 (xw W1333 (xw W1330 (xw W1327 E_s_DRAW)))))))), (fo W1350 (fo W1347 (fo W1343 (fo W1340 (fo W1337 (fo W1333 (fo W1330 (fo W1327 F_s_DRAW_ordinal)))))))), (vo (vo (vo (vo (vo (vo (vo (vo V_s_SW W1327) W1330) W1333) W1337) W1340) W1343) W1347) W1350), (vo (vo (vo (vo (vo (vo (vo (vo V_s_EM W1327) W1330) W1333) W1337) W1340) W1343) W1347) W1350), (xw W1350 E_c1), (Fld.other W1350 (Fld.other W1347 F_c1_wins (Or.inr (slot_ne (Or.inr (w16 hw)) (Or.inl (w136 hw)) (by decide) (t := (.array .int)) (t' := .int) (by decide) (by decide)))) (Or.inr (slot_ne (Or.inr (w16 hw)) (Or.inl (w143 hw)) (by decide) (t := (.array .int)) (t' := .int) (by decide) (by decide)))), (Fld.other W1350 (Fld.other W1347 (fo W1343 (fo W1340 F_c1_draws)) (Or.inr (slot_ne (Or.inr (w18 hw)) (Or.inl (w136 hw)) (by decide) (t := (.array .int)) (t' := .int) (by decide) (by decide)))) (Or.inr (slot_ne (Or.inr (w18 hw)) (Or.inl (w143 hw)) (by decide) (t := (.array .int)) (t' := .int) (by decide) (by decide)))), (Fld.other W1350 (Fld.other W1347 (fo W1343 F_c1_losses) (Or.inr (slot_ne (Or.inr (w20 hw)) (Or.inl (w136 hw)) (by decide) (t := (.array .int)) (t' := .int) (by decide) (by decide)))) (Or.inr (slot_ne (Or.inr (w20 hw)) (Or.inl (w143 hw)) (by decide) (t := (.array .int)) (t' := .int) (by decide) (by decide)))), (Fld.other W1350 (Fld.same W1347 F_c1_matches) (Or.inr (slot_ne (Or.inl (w136 hw)) (Or.inl (w143 hw)) (by decide) (t := .int) (t' := .int) (by decide) (by decide)))), (Fld.same W1350 F_c1_drawnMatches), (vo (vo V_c2 W1347) W1350), (vo (vo (vo V1340 W1343) W1347) W1350), (vo (vo V1343 W1347) W1350), (xw W1350 (xw W1347 (xw W1343 (xw W1340 (xw W1337 (xw W1333 (xw W1330 (xw W1327 E_c5)))))))), (fo W1350 (fo W1347 (fo W1343 (fo W1340 (fo W1337 F_c5_wins))))), (fo W1350 (fo W1347 (fo W1343 (fo W1340 F_c5_draws)))), (fo W1350 (fo W1347 (fo W1343 F_c5_losses))), (fo W1350 (fo W1347 F_c5_matches)), (fo W1350 F_c5_drawnMatches), (vo (vo (vo (vo (vo V_c6 W1337) W1340) W1343) W1347) W1350), (vo (vo (vo (vo V_c7 W1340) W1343) W1347) W1350), (vo (vo (vo V_c8 W1343) W1347) W1350), (xw W1350 (xw W1347 (xw W1343 (xw W1340 (xw W1337 (xw W1333 (xw W1330 (xw W1327 E_c9)))))))), (fo W1350 (fo W1347 (fo W1343 (fo W1340 (fo W1337 (fo W1333 (fo W1330 (fo W1327 F_c9_modCount)))))))), (fo W1350 (fo W1347 (fo W1343 (fo W1340 (fo W1337 (fo W1333 (fo W1330 (fo W1327 F_c9_elementData)))))))), (fo W1350 (fo W1347 (fo W1343 (fo W1340 (fo W1337 (fo W1333 (fo W1330 (fo W1327 F_c9_s)))))))), (xw W1350 (xw W1347 (xw W1343 (xw W1340 (xw W1337 (xw W1333 (xw W1330 (xw W1327 E_e0_)))))))), (xw W1350 (xw W1347 (xw W1343 (xw W1340 (xw W1337 (xw W1333 (xw W1330 (xw W1327 E_c10)))))))), (vo (vo (vo (vo (vo (vo (vo (vo V_c10 W1327) W1330) W1333) W1337) W1340) W1343) W1347) W1350), O_c10, (xw W1350 (xw W1347 (xw W1343 (xw W1340 (xw W1337 (xw W1333 (xw W1330 (xw W1327 E_e1_)))))))), (xw W1350 (xw W1347 (xw W1343 (xw W1340 (xw W1337 (xw W1333 (xw W1330 (xw W1327 E_c11)))))))), (fo W1350 (fo W1347 (fo W1343 (fo W1340 (fo W1337 (fo W1333 (fo W1330 (fo W1327 F_c11_modCount)))))))), (fo W1350 (fo W1347 (fo W1343 (fo W1340 (fo W1337 (fo W1333 (fo W1330 (fo W1327 F_c11_elementData)))))))), (fo W1350 (fo W1347 (fo W1343 (fo W1340 (fo W1337 (fo W1333 (fo W1330 (fo W1327 F_c11_s)))))))), (xw W1350 (xw W1347 (xw W1343 (xw W1340 (xw W1337 (xw W1333 (xw W1330 (xw W1327 E_e2_)))))))), (xw W1350 (xw W1347 (xw W1343 (xw W1340 (xw W1337 (xw W1333 (xw W1330 (xw W1327 E_c12)))))))), (vo (vo (vo (vo (vo (vo (vo (vo V_c12 W1327) W1330) W1333) W1337) W1340) W1343) W1347) W1350), O_c12, (xw W1350 (xw W1347 (xw W1343 (xw W1340 (xw W1337 (xw W1333 (xw W1330 (xw W1327 E_e3_)))))))), g_c1, lt_c1_c2, lt_c2_c3, lt_c3_c4, lt_c4_c5, lt_c5_c6, lt_c6_c7, lt_c7_c8, lt_c8_c9, lt_c9_c10, lt_c10_c11, lt_c11_c12, od_s_WIN, od_s_LOSS, od_s_DRAW, od_s_SW, od_s_EM, od_e0_, od_e1_, od_e2_, od_e3_⟩) (by decide) (by decide)
theorem q1359 (l : Launch) (Z : State) (a0 : Array Value) (hw : HW a0 Z) (ws : List Jvm.Cond) (h0 : Heap) (n0 : Nat) (c1 : Nat) (F_c1_matches : Fld Z h0 c1 cT "matches" "I" (.int (((0 : Int32) + (1 : Int32)) + ((0 : Int32) + (1 : Int32))))) :
    MC l Z y21 prog_6_method_4_code 1 (some .int) ws rm_0_0_0_0 #[(.ref c1)] h0 (QV (.int (((0 : Int32) + (1 : Int32)) + ((0 : Int32) + (1 : Int32)))) h0 n0) := by
  refine own_met (plainFor_of_name pn21) fun p e s m below meth c s₁ X0 hx hZ Y hml hO hnm hlk hret e0 => f_cast (f' := mkF m 0 #[(rv c1)] []) (by first | (simp [entryFrame, mkF, argsToLocals, Value.category]; done) | rfl) ?_
  have N0 := Fr.nil n0
  refine aN X0 hx (hb Y d21_0) rfl rfl <| gF X0 hx hZ hO (w135 hw) Via.refl e0 F_c1_matches (hb Y d21_1) fun T1358 X1358 e1358 => ?_
  exact f_ret X1358 hx hlk (i := .ireturn) hret rfl (Or.inl ⟨rfl, Or.inl rfl, _, rfl⟩) (hb Y d21_4) (QQ := (QV (.int (((0 : Int32) + (1 : Int32)) + ((0 : Int32) + (1 : Int32)))) h0 n0)) ⟨rfl, N0, e1358⟩ (by decide) (by decide)
theorem q1362 (l : Launch) (Z : State) (a0 : Array Value) (hw : HW a0 Z) (ws : List Jvm.Cond) (h0 : Heap) (n0 : Nat) (c1 : Nat) (v0_ : Int32) (v1_ : Int32) (v2_ : Int32) (v3_ : Int32) (F_c1_drawnMatches : Fld Z h0 c1 cT "drawnMatches" "I" (.int ((bumpD (0 : Int32) v0_ v1_) + (bumpD (0 : Int32) v2_ v3_)))) :
    MC l Z y22 prog_6_method_5_code 1 (some .int) ws rm_0_0_0_0 #[(.ref c1)] h0 (QV (.int ((bumpD (0 : Int32) v0_ v1_) + (bumpD (0 : Int32) v2_ v3_))) h0 n0) := by
  refine own_met (plainFor_of_name pn22) fun p e s m below meth c s₁ X0 hx hZ Y hml hO hnm hlk hret e0 => f_cast (f' := mkF m 0 #[(rv c1)] []) (by first | (simp [entryFrame, mkF, argsToLocals, Value.category]; done) | rfl) ?_
  have N0 := Fr.nil n0
  refine aN X0 hx (hb Y d22_0) rfl rfl <| gF X0 hx hZ hO (w142 hw) Via.refl e0 F_c1_drawnMatches (hb Y d22_1) fun T1361 X1361 e1361 => ?_
  exact f_ret X1361 hx hlk (i := .ireturn) hret rfl (Or.inl ⟨rfl, Or.inl rfl, _, rfl⟩) (hb Y d22_4) (QQ := (QV (.int ((bumpD (0 : Int32) v0_ v1_) + (bumpD (0 : Int32) v2_ v3_))) h0 n0)) ⟨rfl, N0, e1361⟩ (by decide) (by decide)
theorem q1365 (l : Launch) (Z : State) (a0 : Array Value) (hw : HW a0 Z) (ws : List Jvm.Cond) (h0 : Heap) (n0 : Nat) (c1 : Nat) (c2 : Nat) (kc3 : ClassId) (v0_ : Int32) (v2_ : Int32) (v1_ : Int32) (v3_ : Int32) (F_c1_wins : Fld Z h0 c1 cT "wins" "[I" (.ref c2)) (V_c2 : Arv Z h0 c2 kc3 .int 2 [(.int ((bump (0 : Int32) v0_ 0) + (bump (0 : Int32) v2_ 0))), (.int ((bump (0 : Int32) v1_ 0) + (bump (0 : Int32) v3_ 0)))] (.int 0)) :
    MC l Z y23 prog_6_method_6_code 2 (some .int) ws rm_0_0_0_0 #[(.ref c1), (.int 0)] h0 (QV (.int ((bump (0 : Int32) v0_ 0) + (bump (0 : Int32) v2_ 0))) h0 n0) := by
  refine own_met (plainFor_of_name pn23) fun p e s m below meth c s₁ X0 hx hZ Y hml hO hnm hlk hret e0 => f_cast (f' := mkF m 0 #[(rv c1), (iv 0)] []) (by first | (simp [entryFrame, mkF, argsToLocals, Value.category]; done) | rfl) ?_
  have N0 := Fr.nil n0
  refine aN X0 hx (hb Y d23_0) rfl rfl <| gF X0 hx hZ hO (w15 hw) Via.refl e0 F_c1_wins (hb Y d23_1) fun T1364 X1364 e1364 => ?_
  refine iN X1364 hx (hb Y d23_4) rfl <| f_iald X1364 hx hZ e1364 V_c2 (v := (.int ((bump (0 : Int32) v0_ 0) + (bump (0 : Int32) v2_ 0)))) rfl (hb Y d23_5) ?_
  exact f_ret X1364 hx hlk (i := .ireturn) hret rfl (Or.inl ⟨rfl, Or.inl rfl, _, rfl⟩) (hb Y d23_6) (QQ := (QV (.int ((bump (0 : Int32) v0_ 0) + (bump (0 : Int32) v2_ 0))) h0 n0)) ⟨rfl, N0, e1364⟩ (by decide) (by decide)
theorem q1370 (l : Launch) (Z : State) (a0 : Array Value) (hw : HW a0 Z) (ws : List Jvm.Cond) (h0 : Heap) (n0 : Nat) (c1 : Nat) (c2 : Nat) (kc3 : ClassId) (v0_ : Int32) (v2_ : Int32) (v1_ : Int32) (v3_ : Int32) (F_c1_losses : Fld Z h0 c1 cT "losses" "[I" (.ref c2)) (V_c2 : Arv Z h0 c2 kc3 .int 2 [(.int ((bump (0 : Int32) v0_ 1) + (bump (0 : Int32) v2_ 1))), (.int ((bump (0 : Int32) v1_ 1) + (bump (0 : Int32) v3_ 1)))] (.int 0)) :
    MC l Z y24 prog_6_method_8_code 2 (some .int) ws rm_0_0_0_0 #[(.ref c1), (.int 0)] h0 (QV (.int ((bump (0 : Int32) v0_ 1) + (bump (0 : Int32) v2_ 1))) h0 n0) := by
  refine own_met (plainFor_of_name pn24) fun p e s m below meth c s₁ X0 hx hZ Y hml hO hnm hlk hret e0 => f_cast (f' := mkF m 0 #[(rv c1), (iv 0)] []) (by first | (simp [entryFrame, mkF, argsToLocals, Value.category]; done) | rfl) ?_
  have N0 := Fr.nil n0
  refine aN X0 hx (hb Y d24_0) rfl rfl <| gF X0 hx hZ hO (w19 hw) Via.refl e0 F_c1_losses (hb Y d24_1) fun T1369 X1369 e1369 => ?_
  refine iN X1369 hx (hb Y d24_4) rfl <| f_iald X1369 hx hZ e1369 V_c2 (v := (.int ((bump (0 : Int32) v0_ 1) + (bump (0 : Int32) v2_ 1)))) rfl (hb Y d24_5) ?_
  exact f_ret X1369 hx hlk (i := .ireturn) hret rfl (Or.inl ⟨rfl, Or.inl rfl, _, rfl⟩) (hb Y d24_6) (QQ := (QV (.int ((bump (0 : Int32) v0_ 1) + (bump (0 : Int32) v2_ 1))) h0 n0)) ⟨rfl, N0, e1369⟩ (by decide) (by decide)
theorem q1375 (l : Launch) (Z : State) (a0 : Array Value) (hw : HW a0 Z) (ws : List Jvm.Cond) (h0 : Heap) (n0 : Nat) (c1 : Nat) (c2 : Nat) (kc3 : ClassId) (v0_ : Int32) (v2_ : Int32) (v1_ : Int32) (v3_ : Int32) (F_c1_draws : Fld Z h0 c1 cT "draws" "[I" (.ref c2)) (V_c2 : Arv Z h0 c2 kc3 .int 2 [(.int ((bump (0 : Int32) v0_ 2) + (bump (0 : Int32) v2_ 2))), (.int ((bump (0 : Int32) v1_ 2) + (bump (0 : Int32) v3_ 2)))] (.int 0)) :
    MC l Z y25 prog_6_method_7_code 2 (some .int) ws rm_0_0_0_0 #[(.ref c1), (.int 0)] h0 (QV (.int ((bump (0 : Int32) v0_ 2) + (bump (0 : Int32) v2_ 2))) h0 n0) := by
  refine own_met (plainFor_of_name pn25) fun p e s m below meth c s₁ X0 hx hZ Y hml hO hnm hlk hret e0 => f_cast (f' := mkF m 0 #[(rv c1), (iv 0)] []) (by first | (simp [entryFrame, mkF, argsToLocals, Value.category]; done) | rfl) ?_
  have N0 := Fr.nil n0
  refine aN X0 hx (hb Y d25_0) rfl rfl <| gF X0 hx hZ hO (w17 hw) Via.refl e0 F_c1_draws (hb Y d25_1) fun T1374 X1374 e1374 => ?_
  refine iN X1374 hx (hb Y d25_4) rfl <| f_iald X1374 hx hZ e1374 V_c2 (v := (.int ((bump (0 : Int32) v0_ 2) + (bump (0 : Int32) v2_ 2)))) rfl (hb Y d25_5) ?_
  exact f_ret X1374 hx hlk (i := .ireturn) hret rfl (Or.inl ⟨rfl, Or.inl rfl, _, rfl⟩) (hb Y d25_6) (QQ := (QV (.int ((bump (0 : Int32) v0_ 2) + (bump (0 : Int32) v2_ 2))) h0 n0)) ⟨rfl, N0, e1374⟩ (by decide) (by decide)
theorem q1380 (l : Launch) (Z : State) (a0 : Array Value) (hw : HW a0 Z) (ws : List Jvm.Cond) (h0 : Heap) (n0 : Nat) (c1 : Nat) (c2 : Nat) (kc3 : ClassId) (v0_ : Int32) (v2_ : Int32) (v1_ : Int32) (v3_ : Int32) (F_c1_wins : Fld Z h0 c1 cT "wins" "[I" (.ref c2)) (V_c2 : Arv Z h0 c2 kc3 .int 2 [(.int ((bump (0 : Int32) v0_ 0) + (bump (0 : Int32) v2_ 0))), (.int ((bump (0 : Int32) v1_ 0) + (bump (0 : Int32) v3_ 0)))] (.int 0)) :
    MC l Z y23 prog_6_method_6_code 2 (some .int) ws rm_0_0_0_0 #[(.ref c1), (.int 1)] h0 (QV (.int ((bump (0 : Int32) v1_ 0) + (bump (0 : Int32) v3_ 0))) h0 n0) := by
  refine own_met (plainFor_of_name pn23) fun p e s m below meth c s₁ X0 hx hZ Y hml hO hnm hlk hret e0 => f_cast (f' := mkF m 0 #[(rv c1), (iv 1)] []) (by first | (simp [entryFrame, mkF, argsToLocals, Value.category]; done) | rfl) ?_
  have N0 := Fr.nil n0
  refine aN X0 hx (hb Y d23_0) rfl rfl <| gF X0 hx hZ hO (w15 hw) Via.refl e0 F_c1_wins (hb Y d23_1) fun T1379 X1379 e1379 => ?_
  refine iN X1379 hx (hb Y d23_4) rfl <| f_iald X1379 hx hZ e1379 V_c2 (v := (.int ((bump (0 : Int32) v1_ 0) + (bump (0 : Int32) v3_ 0)))) rfl (hb Y d23_5) ?_
  exact f_ret X1379 hx hlk (i := .ireturn) hret rfl (Or.inl ⟨rfl, Or.inl rfl, _, rfl⟩) (hb Y d23_6) (QQ := (QV (.int ((bump (0 : Int32) v1_ 0) + (bump (0 : Int32) v3_ 0))) h0 n0)) ⟨rfl, N0, e1379⟩ (by decide) (by decide)
theorem q1385 (l : Launch) (Z : State) (a0 : Array Value) (hw : HW a0 Z) (ws : List Jvm.Cond) (h0 : Heap) (n0 : Nat) (c1 : Nat) (c2 : Nat) (kc3 : ClassId) (v0_ : Int32) (v2_ : Int32) (v1_ : Int32) (v3_ : Int32) (F_c1_losses : Fld Z h0 c1 cT "losses" "[I" (.ref c2)) (V_c2 : Arv Z h0 c2 kc3 .int 2 [(.int ((bump (0 : Int32) v0_ 1) + (bump (0 : Int32) v2_ 1))), (.int ((bump (0 : Int32) v1_ 1) + (bump (0 : Int32) v3_ 1)))] (.int 0)) :
    MC l Z y24 prog_6_method_8_code 2 (some .int) ws rm_0_0_0_0 #[(.ref c1), (.int 1)] h0 (QV (.int ((bump (0 : Int32) v1_ 1) + (bump (0 : Int32) v3_ 1))) h0 n0) := by
  refine own_met (plainFor_of_name pn24) fun p e s m below meth c s₁ X0 hx hZ Y hml hO hnm hlk hret e0 => f_cast (f' := mkF m 0 #[(rv c1), (iv 1)] []) (by first | (simp [entryFrame, mkF, argsToLocals, Value.category]; done) | rfl) ?_
  have N0 := Fr.nil n0
  refine aN X0 hx (hb Y d24_0) rfl rfl <| gF X0 hx hZ hO (w19 hw) Via.refl e0 F_c1_losses (hb Y d24_1) fun T1384 X1384 e1384 => ?_
  refine iN X1384 hx (hb Y d24_4) rfl <| f_iald X1384 hx hZ e1384 V_c2 (v := (.int ((bump (0 : Int32) v1_ 1) + (bump (0 : Int32) v3_ 1)))) rfl (hb Y d24_5) ?_
  exact f_ret X1384 hx hlk (i := .ireturn) hret rfl (Or.inl ⟨rfl, Or.inl rfl, _, rfl⟩) (hb Y d24_6) (QQ := (QV (.int ((bump (0 : Int32) v1_ 1) + (bump (0 : Int32) v3_ 1))) h0 n0)) ⟨rfl, N0, e1384⟩ (by decide) (by decide)
theorem q1390 (l : Launch) (Z : State) (a0 : Array Value) (hw : HW a0 Z) (ws : List Jvm.Cond) (h0 : Heap) (n0 : Nat) (c1 : Nat) (c2 : Nat) (kc3 : ClassId) (v0_ : Int32) (v2_ : Int32) (v1_ : Int32) (v3_ : Int32) (F_c1_draws : Fld Z h0 c1 cT "draws" "[I" (.ref c2)) (V_c2 : Arv Z h0 c2 kc3 .int 2 [(.int ((bump (0 : Int32) v0_ 2) + (bump (0 : Int32) v2_ 2))), (.int ((bump (0 : Int32) v1_ 2) + (bump (0 : Int32) v3_ 2)))] (.int 0)) :
    MC l Z y25 prog_6_method_7_code 2 (some .int) ws rm_0_0_0_0 #[(.ref c1), (.int 1)] h0 (QV (.int ((bump (0 : Int32) v1_ 2) + (bump (0 : Int32) v3_ 2))) h0 n0) := by
  refine own_met (plainFor_of_name pn25) fun p e s m below meth c s₁ X0 hx hZ Y hml hO hnm hlk hret e0 => f_cast (f' := mkF m 0 #[(rv c1), (iv 1)] []) (by first | (simp [entryFrame, mkF, argsToLocals, Value.category]; done) | rfl) ?_
  have N0 := Fr.nil n0
  refine aN X0 hx (hb Y d25_0) rfl rfl <| gF X0 hx hZ hO (w17 hw) Via.refl e0 F_c1_draws (hb Y d25_1) fun T1389 X1389 e1389 => ?_
  refine iN X1389 hx (hb Y d25_4) rfl <| f_iald X1389 hx hZ e1389 V_c2 (v := (.int ((bump (0 : Int32) v1_ 2) + (bump (0 : Int32) v3_ 2)))) rfl (hb Y d25_5) ?_
  exact f_ret X1389 hx hlk (i := .ireturn) hret rfl (Or.inl ⟨rfl, Or.inl rfl, _, rfl⟩) (hb Y d25_6) (QQ := (QV (.int ((bump (0 : Int32) v1_ 2) + (bump (0 : Int32) v3_ 2))) h0 n0)) ⟨rfl, N0, e1389⟩ (by decide) (by decide)
theorem law_0 (l : Launch) (Z : State) (a0 : Array Value) (hw : HW a0 Z) (ws : List Jvm.Cond) (h0 : Heap) (n0 : Nat) (Z0 : n0 ≤ h0.size) (s_WIN : Nat) (s_LOSS : Nat) (s_DRAW : Nat) (s_SW : Nat) (s_EM : Nat) (k901 : ClassId) (k902 : ClassId) (p0 : Int32) (v0_ : Int32) (p1 : Int32) (v1_ : Int32) (p2 : Int32) (v2_ : Int32) (p3 : Int32) (v3_ : Int32) (p4 : Int32) (h4 : (p4 &&& (1 : Int32)) = (0 : Int32)) (P : St0 Z h0 n0 s_WIN s_LOSS s_DRAW s_SW s_EM k901 k902 p0 v0_ p1 v1_ p2 v2_ p3 v3_) :
    MC l Z x code maxLocals ret ws room_1 #[(.int p0), (.int p1), (.int p2), (.int p3), (.int p4)] h0 (QL n0) := by
  obtain ⟨S_WIN, S_LOSS, S_DRAW, S__SwitchMap_com_example_g, S_DEFAULTCAPACITY_EMPTY_EL, E_s_WIN, F_s_WIN_ordinal, E_s_LOSS, F_s_LOSS_ordinal, E_s_DRAW, F_s_DRAW_ordinal, V_s_SW, V_s_EM, od_s_WIN, od_s_LOSS, od_s_DRAW, od_s_SW, od_s_EM, hM0, hv0, hM1, hv1, hM2, hv2, hM3, hv3⟩ := id P
  refine own_met (plainFor_of_name pn26) fun p e s m below meth c s₁ X0 hx hZ Y hml hO hnm hlk hret e0 => f_cast (f' := mkF m 0 #[(iv p0), (iv p1), (iv p2), (iv p3), (iv p4), .unset, .unset, .unset, .unset, .unset, .unset, .unset, .unset, .unset, .unset, .unset, .unset] []) (by first | (simp [entryFrame, mkF, argsToLocals, Value.category, maxLocals]; done) | rfl) ?_
  have N0 := Fr.nil n0
  refine iN X0 hx (hb Y at_0) rfl <| f_stat X0 hx hZ hO (by rw [hml]; rfl) (w0 hw) (w1 hw) (w2 hw) (w3 hw) e0 (argsL := [(.int p0)]) (rest := []) (q5 l Z a0 hw [] h0 n0 p0 v0_ hM0) (lenOf pd0 rfl) (hb Y at_1) fun T4 L4 v4 X4 hQ4 => ?_
  obtain ⟨rfl, N4q, e4⟩ := hQ4
  have N4 := Fr.app N0 N4q
  refine iS X4 hx (L' := #[(iv p0), (iv p1), (iv p2), (iv p3), (iv p4), (iv v0_), .unset, .unset, .unset, .unset, .unset, .unset, .unset, .unset, .unset, .unset, .unset]) (hb Y at_4) rfl <| iN X4 hx (hb Y at_6) rfl <| f_stat X4 hx hZ hO (by rw [hml]; rfl) (w0 hw) (w1 hw) (w2 hw) (w3 hw) e4 (argsL := [(.int p1)]) (rest := []) (q7 l Z a0 hw [] h0 n0 p1 v1_ hM1) (lenOf pd0 rfl) (hb Y at_7) fun T6 L6 v6 X6 hQ6 => ?_
  obtain ⟨rfl, N6q, e6⟩ := hQ6
  have N6 := Fr.app N4 N6q
  refine iS X6 hx (L' := #[(iv p0), (iv p1), (iv p2), (iv p3), (iv p4), (iv v0_), (iv v1_), .unset, .unset, .unset, .unset, .unset, .unset, .unset, .unset, .unset, .unset]) (hb Y at_10) rfl <| iN X6 hx (hb Y at_12) rfl <| f_stat X6 hx hZ hO (by rw [hml]; rfl) (w0 hw) (w1 hw) (w2 hw) (w3 hw) e6 (argsL := [(.int p2)]) (rest := []) (q9 l Z a0 hw [] h0 n0 p2 v2_ hM2) (lenOf pd0 rfl) (hb Y at_13) fun T8 L8 v8 X8 hQ8 => ?_
  obtain ⟨rfl, N8q, e8⟩ := hQ8
  have N8 := Fr.app N6 N8q
  refine iS X8 hx (L' := #[(iv p0), (iv p1), (iv p2), (iv p3), (iv p4), (iv v0_), (iv v1_), (iv v2_), .unset, .unset, .unset, .unset, .unset, .unset, .unset, .unset, .unset]) (hb Y at_16) rfl <| iN X8 hx (hb Y at_18) rfl <| f_stat X8 hx hZ hO (by rw [hml]; rfl) (w0 hw) (w1 hw) (w2 hw) (w3 hw) e8 (argsL := [(.int p3)]) (rest := []) (q11 l Z a0 hw [] h0 n0 p3 v3_ hM3) (lenOf pd0 rfl) (hb Y at_19) fun T10 L10 v10 X10 hQ10 => ?_
  obtain ⟨rfl, N10q, e10⟩ := hQ10
  have N10 := Fr.app N8 N10q
  refine iS X10 hx (L' := #[(iv p0), (iv p1), (iv p2), (iv p3), (iv p4), (iv v0_), (iv v1_), (iv v2_), (iv v3_), .unset, .unset, .unset, .unset, .unset, .unset, .unset, .unset]) (hb Y at_22) rfl <| iL X10 hx (hb Y at_24) rfl <| iK X10 hx (z := 1) (hb Y at_26) <| f_iand X10 hx (z := 0) (hb Y at_27) (q := h4) <| fY X10 hx (pc := 28) 35 (hb Y at_28) <| iK X10 hx (z := 0) (hb Y at_35) <| iS X10 hx (L' := #[(iv p0), (iv p1), (iv p2), (iv p3), (iv p4), (iv v0_), (iv v1_), (iv v2_), (iv v3_), (iv 0), .unset, .unset, .unset, .unset, .unset, .unset, .unset]) (hb Y at_36) rfl <| iL X10 hx (hb Y at_38) rfl <| fY X10 hx (pc := 40) 47 (hb Y at_40) <| iK X10 hx (z := 1) (hb Y at_47) <| iS X10 hx (L' := #[(iv p0), (iv p1), (iv p2), (iv p3), (iv p4), (iv v0_), (iv v1_), (iv v2_), (iv v3_), (iv 0), (iv 1), .unset, .unset, .unset, .unset, .unset, .unset]) (hb Y at_48) rfl <| f_newO X10 hx hZ hO (w5 hw) (w6 hw) (w7 hw) e10 (hb Y at_50) fun T12 h12 b12 g12 X12 e12 E12 A12 D12 => ?_
  have g_b12 : n0 ≤ b12 := by omega
  have F_b12_wins : Fld Z h12 b12 cT "wins" "[I" .null := D12 (Or.inr (w16 hw)) (ty := (.array .int)) (by decide)
  have F_b12_draws : Fld Z h12 b12 cT "draws" "[I" .null := D12 (Or.inr (w18 hw)) (ty := (.array .int)) (by decide)
  have F_b12_losses : Fld Z h12 b12 cT "losses" "[I" .null := D12 (Or.inr (w20 hw)) (ty := (.array .int)) (by decide)
  have F_b12_matches : Fld Z h12 b12 cT "matches" "I" (.int 0) := D12 (Or.inl (w136 hw)) (ty := .int) (by decide)
  have F_b12_drawnMatches : Fld Z h12 b12 cT "drawnMatches" "I" (.int 0) := D12 (Or.inl (w143 hw)) (ty := .int) (by decide)
  have E_b12 := A12
  refine f_dup X12 hx (hb Y at_53) rfl <| iK X12 hx (z := 2) (hb Y at_54) ?_
  have P35 : St1 Z h12 n0 s_WIN s_LOSS s_DRAW s_SW s_EM b12 k901 k902 := ⟨(Sta.ext E12 S_WIN), (Sta.ext E12 S_LOSS), (Sta.ext E12 S_DRAW), (Sta.ext E12 S__SwitchMap_com_example_g), (Sta.ext E12 S_DEFAULTCAPACITY_EMPTY_EL), (xe E12 E_s_WIN), (fe E12 F_s_WIN_ordinal), (xe E12 E_s_LOSS), (fe E12 F_s_LOSS_ordinal), (xe E12 E_s_DRAW), (fe E12 F_s_DRAW_ordinal), (ve V_s_SW E12), (ve V_s_EM E12), E_b12, F_b12_wins, F_b12_draws, F_b12_losses, F_b12_matches, F_b12_drawnMatches, g_b12, od_s_WIN, od_s_LOSS, od_s_DRAW, od_s_SW, od_s_EM⟩
  refine f_spec X12 hx hZ hO (by rw [hml]; rfl) rfl (w8 hw) (w9 hw) (w7 hw) (w10 hw) e12 (a := b12) (argsL := [(.int 2)]) (rest := [(.ref b12)]) (m28 l Z a0 hw [] h12 n0 s_WIN s_LOSS s_DRAW s_SW s_EM b12 k901 k902 P35) (lenOf pd1 rfl) (hb Y at_55) fun T13 L13 v13 X13 hQ13 => ?_
  obtain ⟨kb29, b30, kb31, b32, kb33, b34, rfl, N13q, P13⟩ := hQ13
  obtain ⟨S_WIN, S_LOSS, S_DRAW, S__SwitchMap_com_example_g, S_DEFAULTCAPACITY_EMPTY_EL, E_s_WIN, F_s_WIN_ordinal, E_s_LOSS, F_s_LOSS_ordinal, E_s_DRAW, F_s_DRAW_ordinal, V_s_SW, V_s_EM, E_b12, F_b12_wins, F_b12_draws, F_b12_losses, F_b12_matches, F_b12_drawnMatches, V_b30, V_b32, V_b34, g_b12, lt_b12_b30, lt_b30_b32, lt_b32_b34, od_s_WIN, od_s_LOSS, od_s_DRAW, od_s_SW, od_s_EM⟩ := id P13
  have N13 := Fr.app N10 N13q
  refine f_astore X13 hx (L' := #[(iv p0), (iv p1), (iv p2), (iv p3), (iv p4), (iv v0_), (iv v1_), (iv v2_), (iv v3_), (iv 0), (iv 1), (rv b12), .unset, .unset, .unset, .unset, .unset]) (hb Y at_58) rfl rfl <| f_newO X13 hx hZ hO (w5 hw) (w6 hw) (w7 hw) rfl (hb Y at_60) fun T36 h36 b36 g36 X36 e36 E36 A36 D36 => ?_
  have lt_b34_b36 : b34 < b36 := by have := own_ltV V_b34; omega
  have F_b36_wins : Fld Z h36 b36 cT "wins" "[I" .null := D36 (Or.inr (w16 hw)) (ty := (.array .int)) (by decide)
  have F_b36_draws : Fld Z h36 b36 cT "draws" "[I" .null := D36 (Or.inr (w18 hw)) (ty := (.array .int)) (by decide)
  have F_b36_losses : Fld Z h36 b36 cT "losses" "[I" .null := D36 (Or.inr (w20 hw)) (ty := (.array .int)) (by decide)
  have F_b36_matches : Fld Z h36 b36 cT "matches" "I" (.int 0) := D36 (Or.inl (w136 hw)) (ty := .int) (by decide)
  have F_b36_drawnMatches : Fld Z h36 b36 cT "drawnMatches" "I" (.int 0) := D36 (Or.inl (w143 hw)) (ty := .int) (by decide)
  have E_b36 := A36
  refine f_dup X36 hx (hb Y at_63) rfl <| iK X36 hx (z := 2) (hb Y at_64) ?_
  have P59 : St3 Z h36 n0 s_WIN s_LOSS s_DRAW s_SW s_EM b12 b30 b32 b34 b36 k901 k902 kb29 kb31 kb33 := ⟨(Sta.ext E36 S_WIN), (Sta.ext E36 S_LOSS), (Sta.ext E36 S_DRAW), (Sta.ext E36 S__SwitchMap_com_example_g), (Sta.ext E36 S_DEFAULTCAPACITY_EMPTY_EL), (xe E36 E_s_WIN), (fe E36 F_s_WIN_ordinal), (xe E36 E_s_LOSS), (fe E36 F_s_LOSS_ordinal), (xe E36 E_s_DRAW), (fe E36 F_s_DRAW_ordinal), (ve V_s_SW E36), (ve V_s_EM E36), (xe E36 E_b12), (fe E36 F_b12_wins), (fe E36 F_b12_draws), (fe E36 F_b12_losses), (fe E36 F_b12_matches), (fe E36 F_b12_drawnMatches), (ve V_b30 E36), (ve V_b32 E36), (ve V_b34 E36), E_b36, F_b36_wins, F_b36_draws, F_b36_losses, F_b36_matches, F_b36_drawnMatches, g_b12, lt_b12_b30, lt_b30_b32, lt_b32_b34, lt_b34_b36, od_s_WIN, od_s_LOSS, od_s_DRAW, od_s_SW, od_s_EM⟩
  refine f_spec X36 hx hZ hO (by rw [hml]; rfl) rfl (w8 hw) (w9 hw) (w7 hw) (w10 hw) e36 (a := b36) (argsL := [(.int 2)]) (rest := [(.ref b36)]) (m52 l Z a0 hw [] h36 n0 s_WIN s_LOSS s_DRAW s_SW s_EM b12 b30 b32 b34 b36 k901 k902 kb29 kb31 kb33 P59) (lenOf pd1 rfl) (hb Y at_65) fun T37 L37 v37 X37 hQ37 => ?_
  obtain ⟨kb53, b54, kb55, b56, kb57, b58, rfl, N37q, P37⟩ := hQ37
  obtain ⟨S_WIN, S_LOSS, S_DRAW, S__SwitchMap_com_example_g, S_DEFAULTCAPACITY_EMPTY_EL, E_s_WIN, F_s_WIN_ordinal, E_s_LOSS, F_s_LOSS_ordinal, E_s_DRAW, F_s_DRAW_ordinal, V_s_SW, V_s_EM, E_b12, F_b12_wins, F_b12_draws, F_b12_losses, F_b12_matches, F_b12_drawnMatches, V_b30, V_b32, V_b34, E_b36, F_b36_wins, F_b36_draws, F_b36_losses, F_b36_matches, F_b36_drawnMatches, V_b54, V_b56, V_b58, g_b12, lt_b12_b30, lt_b30_b32, lt_b32_b34, lt_b34_b36, lt_b36_b54, lt_b54_b56, lt_b56_b58, od_s_WIN, od_s_LOSS, od_s_DRAW, od_s_SW, od_s_EM⟩ := id P37
  have N37 := Fr.app N13 N37q
  refine f_astore X37 hx (L' := #[(iv p0), (iv p1), (iv p2), (iv p3), (iv p4), (iv v0_), (iv v1_), (iv v2_), (iv v3_), (iv 0), (iv 1), (rv b12), (rv b36), .unset, .unset, .unset, .unset]) (hb Y at_68) rfl rfl <| f_newO X37 hx hZ hO (w21 hw) (w22 hw) (w23 hw) rfl (hb Y at_70) fun T60 h60 b60 g60 X60 e60 E60 A60 D60 => ?_
  have lt_b58_b60 : b58 < b60 := by have := own_ltV V_b58; omega
  have F_b60_modCount : Fld Z h60 b60 "java/util/AbstractList" "modCount" "I" (.int 0) := D60 (Or.inl (w41 hw)) (ty := .int) (by decide)
  have F_b60_elementData : Fld Z h60 b60 cA "elementData" "[Ljava/lang/Object;" .null := D60 (Or.inl (w44 hw)) (ty := (.array (.object "java/lang/Object"))) (by decide)
  have F_b60_s : Fld Z h60 b60 cA "size" "I" (.int 0) := D60 (Or.inl (w59 hw)) (ty := .int) (by decide)
  have E_b60 := A60
  refine f_dup X60 hx (hb Y at_73) rfl ?_
  have P89 : St5 Z h60 n0 s_WIN s_LOSS s_DRAW s_SW s_EM b12 b30 b32 b34 b36 b54 b56 b58 b60 k901 k902 kb29 kb31 kb33 kb53 kb55 kb57 := ⟨(Sta.ext E60 S_WIN), (Sta.ext E60 S_LOSS), (Sta.ext E60 S_DRAW), (Sta.ext E60 S__SwitchMap_com_example_g), (Sta.ext E60 S_DEFAULTCAPACITY_EMPTY_EL), (xe E60 E_s_WIN), (fe E60 F_s_WIN_ordinal), (xe E60 E_s_LOSS), (fe E60 F_s_LOSS_ordinal), (xe E60 E_s_DRAW), (fe E60 F_s_DRAW_ordinal), (ve V_s_SW E60), (ve V_s_EM E60), (xe E60 E_b12), (fe E60 F_b12_wins), (fe E60 F_b12_draws), (fe E60 F_b12_losses), (fe E60 F_b12_matches), (fe E60 F_b12_drawnMatches), (ve V_b30 E60), (ve V_b32 E60), (ve V_b34 E60), (xe E60 E_b36), (fe E60 F_b36_wins), (fe E60 F_b36_draws), (fe E60 F_b36_losses), (fe E60 F_b36_matches), (fe E60 F_b36_drawnMatches), (ve V_b54 E60), (ve V_b56 E60), (ve V_b58 E60), E_b60, F_b60_modCount, F_b60_elementData, F_b60_s, g_b12, lt_b12_b30, lt_b30_b32, lt_b32_b34, lt_b34_b36, lt_b36_b54, lt_b54_b56, lt_b56_b58, lt_b58_b60, od_s_WIN, od_s_LOSS, od_s_DRAW, od_s_SW, od_s_EM⟩
  refine f_spec X60 hx hZ hO (by rw [hml]; rfl) rfl (w24 hw) (w25 hw) (w23 hw) (w26 hw) e60 (a := b60) (argsL := []) (rest := [(.ref b60)]) (m88 l Z a0 hw [] h60 n0 s_WIN s_LOSS s_DRAW s_SW s_EM b12 b30 b32 b34 b36 b54 b56 b58 b60 k901 k902 kb29 kb31 kb33 kb53 kb55 kb57 P89) (lenOf pd2 rfl) (hb Y at_74) fun T61 L61 v61 X61 hQ61 => ?_
  obtain ⟨rfl, N61q, P61⟩ := hQ61
  obtain ⟨S_WIN, S_LOSS, S_DRAW, S__SwitchMap_com_example_g, S_DEFAULTCAPACITY_EMPTY_EL, E_s_WIN, F_s_WIN_ordinal, E_s_LOSS, F_s_LOSS_ordinal, E_s_DRAW, F_s_DRAW_ordinal, V_s_SW, V_s_EM, E_b12, F_b12_wins, F_b12_draws, F_b12_losses, F_b12_matches, F_b12_drawnMatches, V_b30, V_b32, V_b34, E_b36, F_b36_wins, F_b36_draws, F_b36_losses, F_b36_matches, F_b36_drawnMatches, V_b54, V_b56, V_b58, E_b60, F_b60_modCount, F_b60_elementData, F_b60_s, g_b12, lt_b12_b30, lt_b30_b32, lt_b32_b34, lt_b34_b36, lt_b36_b54, lt_b54_b56, lt_b56_b58, lt_b58_b60, od_s_WIN, od_s_LOSS, od_s_DRAW, od_s_SW, od_s_EM⟩ := id P61
  have N61 := Fr.app N37 N61q
  refine f_astore X61 hx (L' := #[(iv p0), (iv p1), (iv p2), (iv p3), (iv p4), (iv v0_), (iv v1_), (iv v2_), (iv v3_), (iv 0), (iv 1), (rv b12), (rv b36), (rv b60), .unset, .unset, .unset]) (hb Y at_77) rfl rfl <| aA X61 hx (hb Y at_79) rfl rfl <| iL X61 hx (hb Y at_81) rfl <| f_stat X61 hx hZ hO (by rw [hml]; rfl) (w45 hw) (w46 hw) (w2 hw) (w47 hw) rfl (argsL := [(.int v0_)]) (rest := [(.ref b60)]) (own_res l Z a0 hw [] T61.heap n0 s_WIN s_LOSS s_DRAW v0_ hv0 S_WIN S_LOSS S_DRAW E_s_WIN E_s_LOSS E_s_DRAW od_s_WIN od_s_LOSS od_s_DRAW) (lenOf pd3 rfl) (hb Y at_83) fun T90 L90 v90 X90 hQ90 => ?_
  obtain ⟨e0_, rfl, he0, E_e0_, od_e0_, N90q, e90⟩ := hQ90
  have N90 := Fr.app N61 N90q
  have P301 : St11 Z T61.heap n0 s_WIN s_LOSS s_DRAW s_SW s_EM e0_ b12 b30 b32 b34 b36 b54 b56 b58 b60 k901 k902 kb29 kb31 kb33 kb53 kb55 kb57 := ⟨S_WIN, S_LOSS, S_DRAW, S__SwitchMap_com_example_g, S_DEFAULTCAPACITY_EMPTY_EL, E_s_WIN, F_s_WIN_ordinal, E_s_LOSS, F_s_LOSS_ordinal, E_s_DRAW, F_s_DRAW_ordinal, V_s_SW, V_s_EM, E_b12, F_b12_wins, F_b12_draws, F_b12_losses, F_b12_matches, F_b12_drawnMatches, V_b30, V_b32, V_b34, E_b36, F_b36_wins, F_b36_draws, F_b36_losses, F_b36_matches, F_b36_drawnMatches, V_b54, V_b56, V_b58, E_b60, F_b60_modCount, F_b60_elementData, F_b60_s, E_e0_, g_b12, lt_b12_b30, lt_b30_b32, lt_b32_b34, lt_b34_b36, lt_b36_b54, lt_b54_b56, lt_b56_b58, lt_b58_b60, od_s_WIN, od_s_LOSS, od_s_DRAW, od_s_SW, od_s_EM, od_e0_⟩
  refine vV X90 hx hZ hO (by rw [hml]; rfl) (w51 hw) (w52 hw) (w54 hw) (w53 hw) (w23 hw) (w55 hw) e90 E_b60 (argsL := [(.ref e0_)]) (rest := []) (m298 l Z a0 hw [] T61.heap n0 s_WIN s_LOSS s_DRAW s_SW s_EM e0_ b12 b30 b32 b34 b36 b54 b56 b58 b60 k901 k902 kb29 kb31 kb33 kb53 kb55 kb57 P301) (lenOf pd8 rfl) (hb Y at_86) fun T91 L91 v91 X91 hQ91 => ?_
  obtain ⟨kb299, b300, rfl, N91q, P91⟩ := hQ91
  obtain ⟨S_WIN, S_LOSS, S_DRAW, S__SwitchMap_com_example_g, S_DEFAULTCAPACITY_EMPTY_EL, E_s_WIN, F_s_WIN_ordinal, E_s_LOSS, F_s_LOSS_ordinal, E_s_DRAW, F_s_DRAW_ordinal, V_s_SW, V_s_EM, E_b12, F_b12_wins, F_b12_draws, F_b12_losses, F_b12_matches, F_b12_drawnMatches, V_b30, V_b32, V_b34, E_b36, F_b36_wins, F_b36_draws, F_b36_losses, F_b36_matches, F_b36_drawnMatches, V_b54, V_b56, V_b58, E_b60, F_b60_modCount, F_b60_elementData, F_b60_s, E_e0_, E_b300, V_b300, O_b300, g_b12, lt_b12_b30, lt_b30_b32, lt_b32_b34, lt_b34_b36, lt_b36_b54, lt_b54_b56, lt_b56_b58, lt_b58_b60, lt_b60_b300, od_s_WIN, od_s_LOSS, od_s_DRAW, od_s_SW, od_s_EM, od_e0_⟩ := id P91
  have N91 := Fr.app N90 N91q
  refine f_pop X91 hx (hb Y at_89) rfl <| aA X91 hx (hb Y at_90) rfl rfl <| iL X91 hx (hb Y at_92) rfl <| f_stat X91 hx hZ hO (by rw [hml]; rfl) (w45 hw) (w46 hw) (w2 hw) (w47 hw) rfl (argsL := [(.int v1_)]) (rest := [(.ref b60)]) (own_res l Z a0 hw [] T91.heap n0 s_WIN s_LOSS s_DRAW v1_ hv1 S_WIN S_LOSS S_DRAW E_s_WIN E_s_LOSS E_s_DRAW od_s_WIN od_s_LOSS od_s_DRAW) (lenOf pd3 rfl) (hb Y at_94) fun T302 L302 v302 X302 hQ302 => ?_
  obtain ⟨e1_, rfl, he1, E_e1_, od_e1_, N302q, e302⟩ := hQ302
  have N302 := Fr.app N91 N302q
  have P327 : St15 Z T91.heap n0 s_WIN s_LOSS s_DRAW s_SW s_EM e0_ e1_ b12 b30 b32 b34 b36 b54 b56 b58 b60 b300 k901 k902 kb29 kb31 kb33 kb53 kb55 kb57 kb299 := ⟨S_WIN, S_LOSS, S_DRAW, S__SwitchMap_com_example_g, S_DEFAULTCAPACITY_EMPTY_EL, E_s_WIN, F_s_WIN_ordinal, E_s_LOSS, F_s_LOSS_ordinal, E_s_DRAW, F_s_DRAW_ordinal, V_s_SW, V_s_EM, E_b12, F_b12_wins, F_b12_draws, F_b12_losses, F_b12_matches, F_b12_drawnMatches, V_b30, V_b32, V_b34, E_b36, F_b36_wins, F_b36_draws, F_b36_losses, F_b36_matches, F_b36_drawnMatches, V_b54, V_b56, V_b58, E_b60, F_b60_modCount, F_b60_elementData, F_b60_s, E_e0_, E_b300, V_b300, O_b300, E_e1_, g_b12, lt_b12_b30, lt_b30_b32, lt_b32_b34, lt_b34_b36, lt_b36_b54, lt_b54_b56, lt_b56_b58, lt_b58_b60, lt_b60_b300, od_s_WIN, od_s_LOSS, od_s_DRAW, od_s_SW, od_s_EM, od_e0_, od_e1_⟩
  refine vV X302 hx hZ hO (by rw [hml]; rfl) (w51 hw) (w52 hw) (w54 hw) (w53 hw) (w23 hw) (w55 hw) e302 E_b60 (argsL := [(.ref e1_)]) (rest := []) (m326 l Z a0 hw [] T91.heap n0 s_WIN s_LOSS s_DRAW s_SW s_EM e0_ e1_ b12 b30 b32 b34 b36 b54 b56 b58 b60 b300 k901 k902 kb29 kb31 kb33 kb53 kb55 kb57 kb299 P327) (lenOf pd8 rfl) (hb Y at_97) fun T303 L303 v303 X303 hQ303 => ?_
  obtain ⟨rfl, N303q, P303⟩ := hQ303
  obtain ⟨S_WIN, S_LOSS, S_DRAW, S__SwitchMap_com_example_g, S_DEFAULTCAPACITY_EMPTY_EL, E_s_WIN, F_s_WIN_ordinal, E_s_LOSS, F_s_LOSS_ordinal, E_s_DRAW, F_s_DRAW_ordinal, V_s_SW, V_s_EM, E_b12, F_b12_wins, F_b12_draws, F_b12_losses, F_b12_matches, F_b12_drawnMatches, V_b30, V_b32, V_b34, E_b36, F_b36_wins, F_b36_draws, F_b36_losses, F_b36_matches, F_b36_drawnMatches, V_b54, V_b56, V_b58, E_b60, F_b60_modCount, F_b60_elementData, F_b60_s, E_e0_, E_b300, V_b300, O_b300, E_e1_, g_b12, lt_b12_b30, lt_b30_b32, lt_b32_b34, lt_b34_b36, lt_b36_b54, lt_b54_b56, lt_b56_b58, lt_b58_b60, lt_b60_b300, od_s_WIN, od_s_LOSS, od_s_DRAW, od_s_SW, od_s_EM, od_e0_, od_e1_⟩ := id P303
  have N303 := Fr.app N302 N303q
  refine f_pop X303 hx (hb Y at_100) rfl <| f_newO X303 hx hZ hO (w21 hw) (w22 hw) (w23 hw) rfl (hb Y at_101) fun T328 h328 b328 g328 X328 e328 E328 A328 D328 => ?_
  have lt_b300_b328 : b300 < b328 := by have := own_ltE E_b300; omega
  have F_b328_modCount : Fld Z h328 b328 "java/util/AbstractList" "modCount" "I" (.int 0) := D328 (Or.inl (w41 hw)) (ty := .int) (by decide)
  have F_b328_elementData : Fld Z h328 b328 cA "elementData" "[Ljava/lang/Object;" .null := D328 (Or.inl (w44 hw)) (ty := (.array (.object "java/lang/Object"))) (by decide)
  have F_b328_s : Fld Z h328 b328 cA "size" "I" (.int 0) := D328 (Or.inl (w59 hw)) (ty := .int) (by decide)
  have E_b328 := A328
  refine f_dup X328 hx (hb Y at_104) rfl ?_
  have P353 : St16 Z h328 n0 s_WIN s_LOSS s_DRAW s_SW s_EM e0_ e1_ b12 b30 b32 b34 b36 b54 b56 b58 b60 b300 b328 k901 k902 kb29 kb31 kb33 kb53 kb55 kb57 kb299 := ⟨(Sta.ext E328 S_WIN), (Sta.ext E328 S_LOSS), (Sta.ext E328 S_DRAW), (Sta.ext E328 S__SwitchMap_com_example_g), (Sta.ext E328 S_DEFAULTCAPACITY_EMPTY_EL), (xe E328 E_s_WIN), (fe E328 F_s_WIN_ordinal), (xe E328 E_s_LOSS), (fe E328 F_s_LOSS_ordinal), (xe E328 E_s_DRAW), (fe E328 F_s_DRAW_ordinal), (ve V_s_SW E328), (ve V_s_EM E328), (xe E328 E_b12), (fe E328 F_b12_wins), (fe E328 F_b12_draws), (fe E328 F_b12_losses), (fe E328 F_b12_matches), (fe E328 F_b12_drawnMatches), (ve V_b30 E328), (ve V_b32 E328), (ve V_b34 E328), (xe E328 E_b36), (fe E328 F_b36_wins), (fe E328 F_b36_draws), (fe E328 F_b36_losses), (fe E328 F_b36_matches), (fe E328 F_b36_drawnMatches), (ve V_b54 E328), (ve V_b56 E328), (ve V_b58 E328), (xe E328 E_b60), (fe E328 F_b60_modCount), (fe E328 F_b60_elementData), (fe E328 F_b60_s), (xe E328 E_e0_), (xe E328 E_b300), (ve V_b300 E328), O_b300, (xe E328 E_e1_), E_b328, F_b328_modCount, F_b328_elementData, F_b328_s, g_b12, lt_b12_b30, lt_b30_b32, lt_b32_b34, lt_b34_b36, lt_b36_b54, lt_b54_b56, lt_b56_b58, lt_b58_b60, lt_b60_b300, lt_b300_b328, od_s_WIN, od_s_LOSS, od_s_DRAW, od_s_SW, od_s_EM, od_e0_, od_e1_⟩
  refine f_spec X328 hx hZ hO (by rw [hml]; rfl) rfl (w24 hw) (w25 hw) (w23 hw) (w26 hw) e328 (a := b328) (argsL := []) (rest := [(.ref b328)]) (m352 l Z a0 hw [] h328 n0 s_WIN s_LOSS s_DRAW s_SW s_EM e0_ e1_ b12 b30 b32 b34 b36 b54 b56 b58 b60 b300 b328 k901 k902 kb29 kb31 kb33 kb53 kb55 kb57 kb299 P353) (lenOf pd2 rfl) (hb Y at_105) fun T329 L329 v329 X329 hQ329 => ?_
  obtain ⟨rfl, N329q, P329⟩ := hQ329
  obtain ⟨S_WIN, S_LOSS, S_DRAW, S__SwitchMap_com_example_g, S_DEFAULTCAPACITY_EMPTY_EL, E_s_WIN, F_s_WIN_ordinal, E_s_LOSS, F_s_LOSS_ordinal, E_s_DRAW, F_s_DRAW_ordinal, V_s_SW, V_s_EM, E_b12, F_b12_wins, F_b12_draws, F_b12_losses, F_b12_matches, F_b12_drawnMatches, V_b30, V_b32, V_b34, E_b36, F_b36_wins, F_b36_draws, F_b36_losses, F_b36_matches, F_b36_drawnMatches, V_b54, V_b56, V_b58, E_b60, F_b60_modCount, F_b60_elementData, F_b60_s, E_e0_, E_b300, V_b300, O_b300, E_e1_, E_b328, F_b328_modCount, F_b328_elementData, F_b328_s, g_b12, lt_b12_b30, lt_b30_b32, lt_b32_b34, lt_b34_b36, lt_b36_b54, lt_b54_b56, lt_b56_b58, lt_b58_b60, lt_b60_b300, lt_b300_b328, od_s_WIN, od_s_LOSS, od_s_DRAW, od_s_SW, od_s_EM, od_e0_, od_e1_⟩ := id P329
  have N329 := Fr.app N303 N329q
  refine f_astore X329 hx (L' := #[(iv p0), (iv p1), (iv p2), (iv p3), (iv p4), (iv v0_), (iv v1_), (iv v2_), (iv v3_), (iv 0), (iv 1), (rv b12), (rv b36), (rv b60), (rv b328), .unset, .unset]) (hb Y at_108) rfl rfl <| aA X329 hx (hb Y at_110) rfl rfl <| iL X329 hx (hb Y at_112) rfl <| f_stat X329 hx hZ hO (by rw [hml]; rfl) (w45 hw) (w46 hw) (w2 hw) (w47 hw) rfl (argsL := [(.int v2_)]) (rest := [(.ref b328)]) (own_res l Z a0 hw [] T329.heap n0 s_WIN s_LOSS s_DRAW v2_ hv2 S_WIN S_LOSS S_DRAW E_s_WIN E_s_LOSS E_s_DRAW od_s_WIN od_s_LOSS od_s_DRAW) (lenOf pd3 rfl) (hb Y at_114) fun T354 L354 v354 X354 hQ354 => ?_
  obtain ⟨e2_, rfl, he2, E_e2_, od_e2_, N354q, e354⟩ := hQ354
  have N354 := Fr.app N329 N354q
  have P549 : St22 Z T329.heap n0 s_WIN s_LOSS s_DRAW s_SW s_EM e0_ e1_ e2_ b12 b30 b32 b34 b36 b54 b56 b58 b60 b300 b328 k901 k902 kb29 kb31 kb33 kb53 kb55 kb57 kb299 := ⟨S_WIN, S_LOSS, S_DRAW, S__SwitchMap_com_example_g, S_DEFAULTCAPACITY_EMPTY_EL, E_s_WIN, F_s_WIN_ordinal, E_s_LOSS, F_s_LOSS_ordinal, E_s_DRAW, F_s_DRAW_ordinal, V_s_SW, V_s_EM, E_b12, F_b12_wins, F_b12_draws, F_b12_losses, F_b12_matches, F_b12_drawnMatches, V_b30, V_b32, V_b34, E_b36, F_b36_wins, F_b36_draws, F_b36_losses, F_b36_matches, F_b36_drawnMatches, V_b54, V_b56, V_b58, E_b60, F_b60_modCount, F_b60_elementData, F_b60_s, E_e0_, E_b300, V_b300, O_b300, E_e1_, E_b328, F_b328_modCount, F_b328_elementData, F_b328_s, E_e2_, g_b12, lt_b12_b30, lt_b30_b32, lt_b32_b34, lt_b34_b36, lt_b36_b54, lt_b54_b56, lt_b56_b58, lt_b58_b60, lt_b60_b300, lt_b300_b328, od_s_WIN, od_s_LOSS, od_s_DRAW, od_s_SW, od_s_EM, od_e0_, od_e1_, od_e2_⟩
  refine vV X354 hx hZ hO (by rw [hml]; rfl) (w51 hw) (w52 hw) (w54 hw) (w53 hw) (w23 hw) (w55 hw) e354 E_b328 (argsL := [(.ref e2_)]) (rest := []) (m546 l Z a0 hw [] T329.heap n0 s_WIN s_LOSS s_DRAW s_SW s_EM e0_ e1_ e2_ b12 b30 b32 b34 b36 b54 b56 b58 b60 b300 b328 k901 k902 kb29 kb31 kb33 kb53 kb55 kb57 kb299 P549) (lenOf pd8 rfl) (hb Y at_117) fun T355 L355 v355 X355 hQ355 => ?_
  obtain ⟨kb547, b548, rfl, N355q, P355⟩ := hQ355
  obtain ⟨S_WIN, S_LOSS, S_DRAW, S__SwitchMap_com_example_g, S_DEFAULTCAPACITY_EMPTY_EL, E_s_WIN, F_s_WIN_ordinal, E_s_LOSS, F_s_LOSS_ordinal, E_s_DRAW, F_s_DRAW_ordinal, V_s_SW, V_s_EM, E_b12, F_b12_wins, F_b12_draws, F_b12_losses, F_b12_matches, F_b12_drawnMatches, V_b30, V_b32, V_b34, E_b36, F_b36_wins, F_b36_draws, F_b36_losses, F_b36_matches, F_b36_drawnMatches, V_b54, V_b56, V_b58, E_b60, F_b60_modCount, F_b60_elementData, F_b60_s, E_e0_, E_b300, V_b300, O_b300, E_e1_, E_b328, F_b328_modCount, F_b328_elementData, F_b328_s, E_e2_, E_b548, V_b548, O_b548, g_b12, lt_b12_b30, lt_b30_b32, lt_b32_b34, lt_b34_b36, lt_b36_b54, lt_b54_b56, lt_b56_b58, lt_b58_b60, lt_b60_b300, lt_b300_b328, lt_b328_b548, od_s_WIN, od_s_LOSS, od_s_DRAW, od_s_SW, od_s_EM, od_e0_, od_e1_, od_e2_⟩ := id P355
  have N355 := Fr.app N354 N355q
  refine f_pop X355 hx (hb Y at_120) rfl <| aA X355 hx (hb Y at_121) rfl rfl <| iL X355 hx (hb Y at_123) rfl <| f_stat X355 hx hZ hO (by rw [hml]; rfl) (w45 hw) (w46 hw) (w2 hw) (w47 hw) rfl (argsL := [(.int v3_)]) (rest := [(.ref b328)]) (own_res l Z a0 hw [] T355.heap n0 s_WIN s_LOSS s_DRAW v3_ hv3 S_WIN S_LOSS S_DRAW E_s_WIN E_s_LOSS E_s_DRAW od_s_WIN od_s_LOSS od_s_DRAW) (lenOf pd3 rfl) (hb Y at_125) fun T550 L550 v550 X550 hQ550 => ?_
  obtain ⟨e3_, rfl, he3, E_e3_, od_e3_, N550q, e550⟩ := hQ550
  have N550 := Fr.app N355 N550q
  have P575 : St26 Z T355.heap n0 s_WIN s_LOSS s_DRAW s_SW s_EM e0_ e1_ e2_ e3_ b12 b30 b32 b34 b36 b54 b56 b58 b60 b300 b328 b548 k901 k902 kb29 kb31 kb33 kb53 kb55 kb57 kb299 kb547 := ⟨S_WIN, S_LOSS, S_DRAW, S__SwitchMap_com_example_g, S_DEFAULTCAPACITY_EMPTY_EL, E_s_WIN, F_s_WIN_ordinal, E_s_LOSS, F_s_LOSS_ordinal, E_s_DRAW, F_s_DRAW_ordinal, V_s_SW, V_s_EM, E_b12, F_b12_wins, F_b12_draws, F_b12_losses, F_b12_matches, F_b12_drawnMatches, V_b30, V_b32, V_b34, E_b36, F_b36_wins, F_b36_draws, F_b36_losses, F_b36_matches, F_b36_drawnMatches, V_b54, V_b56, V_b58, E_b60, F_b60_modCount, F_b60_elementData, F_b60_s, E_e0_, E_b300, V_b300, O_b300, E_e1_, E_b328, F_b328_modCount, F_b328_elementData, F_b328_s, E_e2_, E_b548, V_b548, O_b548, E_e3_, g_b12, lt_b12_b30, lt_b30_b32, lt_b32_b34, lt_b34_b36, lt_b36_b54, lt_b54_b56, lt_b56_b58, lt_b58_b60, lt_b60_b300, lt_b300_b328, lt_b328_b548, od_s_WIN, od_s_LOSS, od_s_DRAW, od_s_SW, od_s_EM, od_e0_, od_e1_, od_e2_, od_e3_⟩
  refine vV X550 hx hZ hO (by rw [hml]; rfl) (w51 hw) (w52 hw) (w54 hw) (w53 hw) (w23 hw) (w55 hw) e550 E_b328 (argsL := [(.ref e3_)]) (rest := []) (m574 l Z a0 hw [] T355.heap n0 s_WIN s_LOSS s_DRAW s_SW s_EM e0_ e1_ e2_ e3_ b12 b30 b32 b34 b36 b54 b56 b58 b60 b300 b328 b548 k901 k902 kb29 kb31 kb33 kb53 kb55 kb57 kb299 kb547 P575) (lenOf pd8 rfl) (hb Y at_128) fun T551 L551 v551 X551 hQ551 => ?_
  obtain ⟨rfl, N551q, P551⟩ := hQ551
  obtain ⟨S_WIN, S_LOSS, S_DRAW, S__SwitchMap_com_example_g, S_DEFAULTCAPACITY_EMPTY_EL, E_s_WIN, F_s_WIN_ordinal, E_s_LOSS, F_s_LOSS_ordinal, E_s_DRAW, F_s_DRAW_ordinal, V_s_SW, V_s_EM, E_b12, F_b12_wins, F_b12_draws, F_b12_losses, F_b12_matches, F_b12_drawnMatches, V_b30, V_b32, V_b34, E_b36, F_b36_wins, F_b36_draws, F_b36_losses, F_b36_matches, F_b36_drawnMatches, V_b54, V_b56, V_b58, E_b60, F_b60_modCount, F_b60_elementData, F_b60_s, E_e0_, E_b300, V_b300, O_b300, E_e1_, E_b328, F_b328_modCount, F_b328_elementData, F_b328_s, E_e2_, E_b548, V_b548, O_b548, E_e3_, g_b12, lt_b12_b30, lt_b30_b32, lt_b32_b34, lt_b34_b36, lt_b36_b54, lt_b54_b56, lt_b56_b58, lt_b58_b60, lt_b60_b300, lt_b300_b328, lt_b328_b548, od_s_WIN, od_s_LOSS, od_s_DRAW, od_s_SW, od_s_EM, od_e0_, od_e1_, od_e2_, od_e3_⟩ := id P551
  have N551 := Fr.app N550 N551q
  refine f_pop X551 hx (hb Y at_131) rfl <| aA X551 hx (hb Y at_132) rfl rfl <| aA X551 hx (hb Y at_134) rfl rfl ?_
  have P957 : St27 Z T551.heap n0 s_WIN s_LOSS s_DRAW s_SW s_EM e0_ e1_ e2_ e3_ b12 b30 b32 b34 b36 b54 b56 b58 b60 b300 b328 b548 k901 k902 kb29 kb31 kb33 kb53 kb55 kb57 kb299 kb547 (0 : Int32) (0 : Int32) (0 : Int32) (0 : Int32) (0 : Int32) (0 : Int32) (0 : Int32) (0 : Int32) (0 : Int32) (0 : Int32) (0 : Int32) (0 : Int32) (0 : Int32) (0 : Int32) (0 : Int32) (0 : Int32) v0_ v1_ v2_ v3_ := ⟨S_WIN, S_LOSS, S_DRAW, S__SwitchMap_com_example_g, S_DEFAULTCAPACITY_EMPTY_EL, E_s_WIN, F_s_WIN_ordinal, E_s_LOSS, F_s_LOSS_ordinal, E_s_DRAW, F_s_DRAW_ordinal, V_s_SW, V_s_EM, E_b12, F_b12_wins, F_b12_draws, F_b12_losses, F_b12_matches, F_b12_drawnMatches, V_b30, V_b32, V_b34, E_b36, F_b36_wins, F_b36_draws, F_b36_losses, F_b36_matches, F_b36_drawnMatches, V_b54, V_b56, V_b58, E_b60, F_b60_modCount, F_b60_elementData, F_b60_s, E_e0_, E_b300, V_b300, O_b300, E_e1_, E_b328, F_b328_modCount, F_b328_elementData, F_b328_s, E_e2_, E_b548, V_b548, O_b548, E_e3_, g_b12, lt_b12_b30, lt_b30_b32, lt_b32_b34, lt_b34_b36, lt_b36_b54, lt_b54_b56, lt_b56_b58, lt_b58_b60, lt_b60_b300, lt_b300_b328, lt_b328_b548, od_s_WIN, od_s_LOSS, od_s_DRAW, od_s_SW, od_s_EM, od_e0_, od_e1_, od_e2_, od_e3_, hv0, hv1, hv2, hv3, he0, he1, he2, he3⟩
  refine vV X551 hx hZ hO (by rw [hml]; rfl) (w86 hw) (w87 hw) (w89 hw) (w88 hw) (w7 hw) (w90 hw) rfl E_b12 (argsL := [(.ref b60)]) (rest := []) (mr577 l Z a0 hw [] T551.heap n0 s_WIN s_LOSS s_DRAW s_SW s_EM e0_ e1_ e2_ e3_ b12 b30 b32 b34 b36 b54 b56 b58 b60 b300 b328 b548 k901 k902 kb29 kb31 kb33 kb53 kb55 kb57 kb299 kb547 (0 : Int32) (0 : Int32) (0 : Int32) (0 : Int32) (0 : Int32) (0 : Int32) (0 : Int32) (0 : Int32) (0 : Int32) (0 : Int32) (0 : Int32) (0 : Int32) (0 : Int32) (0 : Int32) (0 : Int32) (0 : Int32) v0_ v1_ v2_ v3_ P957) (lenOf pd12 rfl) (hb Y at_136) fun T576 L576 v576 X576 hQ576 => ?_
  obtain ⟨rfl, N576q, P576⟩ := hQ576
  obtain ⟨S_WIN, S_LOSS, S_DRAW, S__SwitchMap_com_example_g, S_DEFAULTCAPACITY_EMPTY_EL, E_s_WIN, F_s_WIN_ordinal, E_s_LOSS, F_s_LOSS_ordinal, E_s_DRAW, F_s_DRAW_ordinal, V_s_SW, V_s_EM, E_b12, F_b12_wins, F_b12_draws, F_b12_losses, F_b12_matches, F_b12_drawnMatches, V_b30, V_b32, V_b34, E_b36, F_b36_wins, F_b36_draws, F_b36_losses, F_b36_matches, F_b36_drawnMatches, V_b54, V_b56, V_b58, E_b60, F_b60_modCount, F_b60_elementData, F_b60_s, E_e0_, E_b300, V_b300, O_b300, E_e1_, E_b328, F_b328_modCount, F_b328_elementData, F_b328_s, E_e2_, E_b548, V_b548, O_b548, E_e3_, g_b12, lt_b12_b30, lt_b30_b32, lt_b32_b34, lt_b34_b36, lt_b36_b54, lt_b54_b56, lt_b56_b58, lt_b58_b60, lt_b60_b300, lt_b300_b328, lt_b328_b548, od_s_WIN, od_s_LOSS, od_s_DRAW, od_s_SW, od_s_EM, od_e0_, od_e1_, od_e2_, od_e3_, hv0, hv1, hv2, hv3, he0, he1, he2, he3⟩ := id P576
  have N576 := Fr.app N551 N576q
  refine aA X576 hx (hb Y at_139) rfl rfl <| aA X576 hx (hb Y at_141) rfl rfl ?_
  have P1295 : St27 Z T576.heap n0 s_WIN s_LOSS s_DRAW s_SW s_EM e0_ e1_ e2_ e3_ b12 b30 b32 b34 b36 b54 b56 b58 b60 b300 b328 b548 k901 k902 kb29 kb31 kb33 kb53 kb55 kb57 kb299 kb547 ((0 : Int32) + (1 : Int32)) (bumpD (0 : Int32) v0_ v1_) (bump (0 : Int32) v0_ 0) (bump (0 : Int32) v1_ 0) (bump (0 : Int32) v0_ 2) (bump (0 : Int32) v1_ 2) (bump (0 : Int32) v0_ 1) (bump (0 : Int32) v1_ 1) (0 : Int32) (0 : Int32) (0 : Int32) (0 : Int32) (0 : Int32) (0 : Int32) (0 : Int32) (0 : Int32) v0_ v1_ v2_ v3_ := ⟨S_WIN, S_LOSS, S_DRAW, S__SwitchMap_com_example_g, S_DEFAULTCAPACITY_EMPTY_EL, E_s_WIN, F_s_WIN_ordinal, E_s_LOSS, F_s_LOSS_ordinal, E_s_DRAW, F_s_DRAW_ordinal, V_s_SW, V_s_EM, E_b12, F_b12_wins, F_b12_draws, F_b12_losses, F_b12_matches, F_b12_drawnMatches, V_b30, V_b32, V_b34, E_b36, F_b36_wins, F_b36_draws, F_b36_losses, F_b36_matches, F_b36_drawnMatches, V_b54, V_b56, V_b58, E_b60, F_b60_modCount, F_b60_elementData, F_b60_s, E_e0_, E_b300, V_b300, O_b300, E_e1_, E_b328, F_b328_modCount, F_b328_elementData, F_b328_s, E_e2_, E_b548, V_b548, O_b548, E_e3_, g_b12, lt_b12_b30, lt_b30_b32, lt_b32_b34, lt_b34_b36, lt_b36_b54, lt_b54_b56, lt_b56_b58, lt_b58_b60, lt_b60_b300, lt_b300_b328, lt_b328_b548, od_s_WIN, od_s_LOSS, od_s_DRAW, od_s_SW, od_s_EM, od_e0_, od_e1_, od_e2_, od_e3_, hv0, hv1, hv2, hv3, he0, he1, he2, he3⟩
  refine vV X576 hx hZ hO (by rw [hml]; rfl) (w86 hw) (w87 hw) (w89 hw) (w88 hw) (w7 hw) (w90 hw) rfl E_b36 (argsL := [(.ref b328)]) (rest := []) (mr959 l Z a0 hw [] T576.heap n0 s_WIN s_LOSS s_DRAW s_SW s_EM e0_ e1_ e2_ e3_ b12 b30 b32 b34 b36 b54 b56 b58 b60 b300 b328 b548 k901 k902 kb29 kb31 kb33 kb53 kb55 kb57 kb299 kb547 ((0 : Int32) + (1 : Int32)) (bumpD (0 : Int32) v0_ v1_) (bump (0 : Int32) v0_ 0) (bump (0 : Int32) v1_ 0) (bump (0 : Int32) v0_ 2) (bump (0 : Int32) v1_ 2) (bump (0 : Int32) v0_ 1) (bump (0 : Int32) v1_ 1) (0 : Int32) (0 : Int32) (0 : Int32) (0 : Int32) (0 : Int32) (0 : Int32) (0 : Int32) (0 : Int32) v0_ v1_ v2_ v3_ P1295) (lenOf pd12 rfl) (hb Y at_143) fun T958 L958 v958 X958 hQ958 => ?_
  obtain ⟨rfl, N958q, P958⟩ := hQ958
  obtain ⟨S_WIN, S_LOSS, S_DRAW, S__SwitchMap_com_example_g, S_DEFAULTCAPACITY_EMPTY_EL, E_s_WIN, F_s_WIN_ordinal, E_s_LOSS, F_s_LOSS_ordinal, E_s_DRAW, F_s_DRAW_ordinal, V_s_SW, V_s_EM, E_b12, F_b12_wins, F_b12_draws, F_b12_losses, F_b12_matches, F_b12_drawnMatches, V_b30, V_b32, V_b34, E_b36, F_b36_wins, F_b36_draws, F_b36_losses, F_b36_matches, F_b36_drawnMatches, V_b54, V_b56, V_b58, E_b60, F_b60_modCount, F_b60_elementData, F_b60_s, E_e0_, E_b300, V_b300, O_b300, E_e1_, E_b328, F_b328_modCount, F_b328_elementData, F_b328_s, E_e2_, E_b548, V_b548, O_b548, E_e3_, g_b12, lt_b12_b30, lt_b30_b32, lt_b32_b34, lt_b34_b36, lt_b36_b54, lt_b54_b56, lt_b56_b58, lt_b58_b60, lt_b60_b300, lt_b300_b328, lt_b328_b548, od_s_WIN, od_s_LOSS, od_s_DRAW, od_s_SW, od_s_EM, od_e0_, od_e1_, od_e2_, od_e3_, hv0, hv1, hv2, hv3, he0, he1, he2, he3⟩ := id P958
  have N958 := Fr.app N576 N958q
  refine iL X958 hx (hb Y at_146) rfl <| fY X958 hx (pc := 148) 158 (hb Y at_148) <| aA X958 hx (hb Y at_158) rfl rfl <| aA X958 hx (hb Y at_160) rfl rfl ?_
  have P1352 : St30 Z T958.heap n0 s_WIN s_LOSS s_DRAW s_SW s_EM e0_ e1_ e2_ e3_ b12 b30 b32 b34 b36 b54 b56 b58 b60 b300 b328 b548 k901 k902 kb29 kb31 kb33 kb53 kb55 kb57 kb299 kb547 v0_ v1_ v2_ v3_ := ⟨S_WIN, S_LOSS, S_DRAW, S__SwitchMap_com_example_g, S_DEFAULTCAPACITY_EMPTY_EL, E_s_WIN, F_s_WIN_ordinal, E_s_LOSS, F_s_LOSS_ordinal, E_s_DRAW, F_s_DRAW_ordinal, V_s_SW, V_s_EM, E_b12, F_b12_wins, F_b12_draws, F_b12_losses, F_b12_matches, F_b12_drawnMatches, V_b30, V_b32, V_b34, E_b36, F_b36_wins, F_b36_draws, F_b36_losses, F_b36_matches, F_b36_drawnMatches, V_b54, V_b56, V_b58, E_b60, F_b60_modCount, F_b60_elementData, F_b60_s, E_e0_, E_b300, V_b300, O_b300, E_e1_, E_b328, F_b328_modCount, F_b328_elementData, F_b328_s, E_e2_, E_b548, V_b548, O_b548, E_e3_, g_b12, lt_b12_b30, lt_b30_b32, lt_b32_b34, lt_b34_b36, lt_b36_b54, lt_b54_b56, lt_b56_b58, lt_b58_b60, lt_b60_b300, lt_b300_b328, lt_b328_b548, od_s_WIN, od_s_LOSS, od_s_DRAW, od_s_SW, od_s_EM, od_e0_, od_e1_, od_e2_, od_e3_⟩
  refine vV X958 hx hZ hO (by rw [hml]; rfl) (w137 hw) (w138 hw) (w140 hw) (w139 hw) (w7 hw) (w141 hw) rfl E_b12 (argsL := [(.ref b36)]) (rest := []) (m1351 l Z a0 hw [] T958.heap n0 s_WIN s_LOSS s_DRAW s_SW s_EM e0_ e1_ e2_ e3_ b12 b30 b32 b34 b36 b54 b56 b58 b60 b300 b328 b548 k901 k902 kb29 kb31 kb33 kb53 kb55 kb57 kb299 kb547 v0_ v1_ v2_ v3_ P1352) (lenOf pd13 rfl) (hb Y at_162) fun T1296 L1296 v1296 X1296 hQ1296 => ?_
  obtain ⟨rfl, N1296q, P1296⟩ := hQ1296
  obtain ⟨S_WIN, S_LOSS, S_DRAW, S__SwitchMap_com_example_g, S_DEFAULTCAPACITY_EMPTY_EL, E_s_WIN, F_s_WIN_ordinal, E_s_LOSS, F_s_LOSS_ordinal, E_s_DRAW, F_s_DRAW_ordinal, V_s_SW, V_s_EM, E_b12, F_b12_wins, F_b12_draws, F_b12_losses, F_b12_matches, F_b12_drawnMatches, V_b30, V_b32, V_b34, E_b36, F_b36_wins, F_b36_draws, F_b36_losses, F_b36_matches, F_b36_drawnMatches, V_b54, V_b56, V_b58, E_b60, F_b60_modCount, F_b60_elementData, F_b60_s, E_e0_, E_b300, V_b300, O_b300, E_e1_, E_b328, F_b328_modCount, F_b328_elementData, F_b328_s, E_e2_, E_b548, V_b548, O_b548, E_e3_, g_b12, lt_b12_b30, lt_b30_b32, lt_b32_b34, lt_b34_b36, lt_b36_b54, lt_b54_b56, lt_b56_b58, lt_b58_b60, lt_b60_b300, lt_b300_b328, lt_b328_b548, od_s_WIN, od_s_LOSS, od_s_DRAW, od_s_SW, od_s_EM, od_e0_, od_e1_, od_e2_, od_e3_⟩ := id P1296
  have N1296 := Fr.app N958 N1296q
  refine iL X1296 hx (hb Y at_165) rfl <| iK X1296 hx (z := 2) (hb Y at_167) <| f_stat X1296 hx hZ hO (by rw [hml]; rfl) (w144 hw) (w145 hw) (w2 hw) (w146 hw) rfl (argsL := [(.int v0_), (.int 2)]) (rest := []) (own_is l Z a0 hw [] T1296.heap n0 v0_ (2 : Int32)) (lenOf pd4 rfl) (hb Y at_168) fun T1353 L1353 v1353 X1353 hQ1353 => ?_
  obtain ⟨rfl, N1353q, e1353⟩ := hQ1353
  have N1353 := Fr.app N1296 N1353q
  refine iL X1353 hx (hb Y at_171) rfl <| iK X1353 hx (z := 2) (hb Y at_173) <| f_stat X1353 hx hZ hO (by rw [hml]; rfl) (w144 hw) (w145 hw) (w2 hw) (w146 hw) e1353 (argsL := [(.int v1_), (.int 2)]) (rest := [(.int (isF v0_ (2 : Int32)))]) (own_is l Z a0 hw [] T1296.heap n0 v1_ (2 : Int32)) (lenOf pd4 rfl) (hb Y at_174) fun T1354 L1354 v1354 X1354 hQ1354 => ?_
  obtain ⟨rfl, N1354q, e1354⟩ := hQ1354
  have N1354 := Fr.app N1353 N1354q
  refine f_iand X1354 hx (z := ((isF v0_ (2 : Int32)) &&& (isF v1_ (2 : Int32)))) (hb Y at_177) (q := rfl) <| iL X1354 hx (hb Y at_178) rfl <| iL X1354 hx (hb Y at_180) rfl <| iK X1354 hx (z := 2) (hb Y at_182) <| f_stat X1354 hx hZ hO (by rw [hml]; rfl) (w144 hw) (w145 hw) (w2 hw) (w146 hw) e1354 (argsL := [(.int v2_), (.int 2)]) (rest := [(.int 1), (.int ((isF v0_ (2 : Int32)) &&& (isF v1_ (2 : Int32))))]) (own_is l Z a0 hw [] T1296.heap n0 v2_ (2 : Int32)) (lenOf pd4 rfl) (hb Y at_183) fun T1355 L1355 v1355 X1355 hQ1355 => ?_
  obtain ⟨rfl, N1355q, e1355⟩ := hQ1355
  have N1355 := Fr.app N1354 N1355q
  refine iL X1355 hx (hb Y at_186) rfl <| iK X1355 hx (z := 2) (hb Y at_188) <| f_stat X1355 hx hZ hO (by rw [hml]; rfl) (w144 hw) (w145 hw) (w2 hw) (w146 hw) e1355 (argsL := [(.int v3_), (.int 2)]) (rest := [(.int (isF v2_ (2 : Int32))), (.int 1), (.int ((isF v0_ (2 : Int32)) &&& (isF v1_ (2 : Int32))))]) (own_is l Z a0 hw [] T1296.heap n0 v3_ (2 : Int32)) (lenOf pd4 rfl) (hb Y at_189) fun T1356 L1356 v1356 X1356 hQ1356 => ?_
  obtain ⟨rfl, N1356q, e1356⟩ := hQ1356
  have N1356 := Fr.app N1355 N1356q
  refine f_iand X1356 hx (z := ((isF v2_ (2 : Int32)) &&& (isF v3_ (2 : Int32)))) (hb Y at_192) (q := rfl) <| f_imul X1356 hx (z := ((1 : Int32) * ((isF v2_ (2 : Int32)) &&& (isF v3_ (2 : Int32))))) (hb Y at_193) (q := rfl) <| iA X1356 hx (z := (((isF v0_ (2 : Int32)) &&& (isF v1_ (2 : Int32))) + ((1 : Int32) * ((isF v2_ (2 : Int32)) &&& (isF v3_ (2 : Int32)))))) (hb Y at_194) (q := rfl) <| iS X1356 hx (L' := #[(iv p0), (iv p1), (iv p2), (iv p3), (iv p4), (iv v0_), (iv v1_), (iv v2_), (iv v3_), (iv 0), (iv 1), (rv b12), (rv b36), (rv b60), (rv b328), (iv (((isF v0_ (2 : Int32)) &&& (isF v1_ (2 : Int32))) + ((1 : Int32) * ((isF v2_ (2 : Int32)) &&& (isF v3_ (2 : Int32)))))), .unset]) (hb Y at_195) rfl <| aA X1356 hx (hb Y at_197) rfl rfl <| vV X1356 hx hZ hO (by rw [hml]; rfl) (w147 hw) (w148 hw) (w150 hw) (w149 hw) (w7 hw) (w151 hw) e1356 E_b12 (argsL := []) (rest := []) (q1359 l Z a0 hw [] T1296.heap n0 b12 F_b12_matches) (lenOf pd9 rfl) (hb Y at_199) fun T1357 L1357 v1357 X1357 hQ1357 => ?_
  obtain ⟨rfl, N1357q, e1357⟩ := hQ1357
  have N1357 := Fr.app N1356 N1357q
  refine iK X1357 hx (z := 1) (hb Y at_202) <| iL X1357 hx (hb Y at_203) rfl <| iA X1357 hx (z := 2) (hb Y at_205) <| cN X1357 hx (hb Y at_206) (hc := (teq (by  decide +kernel : (((0 : Int32) + (1 : Int32)) + ((0 : Int32) + (1 : Int32))) = (2 : Int32))).2) <| iK X1357 hx (z := 1) (hb Y at_209) <| gT X1357 hx (pc := 210) 214 (hb Y at_210) <| iS X1357 hx (L' := #[(iv p0), (iv p1), (iv p2), (iv p3), (iv p4), (iv v0_), (iv v1_), (iv v2_), (iv v3_), (iv 0), (iv 1), (rv b12), (rv b36), (rv b60), (rv b328), (iv (((isF v0_ (2 : Int32)) &&& (isF v1_ (2 : Int32))) + ((1 : Int32) * ((isF v2_ (2 : Int32)) &&& (isF v3_ (2 : Int32)))))), (iv 1)]) (hb Y at_214) rfl <| iL X1357 hx (hb Y at_216) rfl <| fN X1357 hx (hb Y at_218) <| aA X1357 hx (hb Y at_221) rfl rfl <| vV X1357 hx hZ hO (by rw [hml]; rfl) (w152 hw) (w153 hw) (w155 hw) (w154 hw) (w7 hw) (w156 hw) e1357 E_b12 (argsL := []) (rest := []) (q1362 l Z a0 hw [] T1296.heap n0 b12 v0_ v1_ v2_ v3_ F_b12_drawnMatches) (lenOf pd9 rfl) (hb Y at_223) fun T1360 L1360 v1360 X1360 hQ1360 => ?_
  obtain ⟨rfl, N1360q, e1360⟩ := hQ1360
  have N1360 := Fr.app N1357 N1360q
  refine iL X1360 hx (hb Y at_226) rfl <| cN X1360 hx (hb Y at_228) (hc := (teq (by rcases hv0 with rfl | rfl | rfl <;> rcases hv1 with rfl | rfl | rfl <;> rcases hv2 with rfl | rfl | rfl <;> rcases hv3 with rfl | rfl | rfl <;>  decide +kernel : ((bumpD (0 : Int32) v0_ v1_) + (bumpD (0 : Int32) v2_ v3_)) = (((isF v0_ (2 : Int32)) &&& (isF v1_ (2 : Int32))) + ((1 : Int32) * ((isF v2_ (2 : Int32)) &&& (isF v3_ (2 : Int32))))))).2) <| iK X1360 hx (z := 1) (hb Y at_231) <| gT X1360 hx (pc := 232) 236 (hb Y at_232) <| iS X1360 hx (L' := #[(iv p0), (iv p1), (iv p2), (iv p3), (iv p4), (iv v0_), (iv v1_), (iv v2_), (iv v3_), (iv 0), (iv 1), (rv b12), (rv b36), (rv b60), (rv b328), (iv (((isF v0_ (2 : Int32)) &&& (isF v1_ (2 : Int32))) + ((1 : Int32) * ((isF v2_ (2 : Int32)) &&& (isF v3_ (2 : Int32)))))), (iv 1)]) (hb Y at_236) rfl <| iL X1360 hx (hb Y at_238) rfl <| fN X1360 hx (hb Y at_240) <| aA X1360 hx (hb Y at_243) rfl rfl <| iK X1360 hx (z := 0) (hb Y at_245) <| vV X1360 hx hZ hO (by rw [hml]; rfl) (w157 hw) (w158 hw) (w160 hw) (w159 hw) (w7 hw) (w161 hw) e1360 E_b12 (argsL := [(.int 0)]) (rest := []) (q1365 l Z a0 hw [] T1296.heap n0 b12 b30 kb29 v0_ v2_ v1_ v3_ F_b12_wins V_b30) (lenOf pd0 rfl) (hb Y at_246) fun T1363 L1363 v1363 X1363 hQ1363 => ?_
  obtain ⟨rfl, N1363q, e1363⟩ := hQ1363
  have N1363 := Fr.app N1360 N1363q
  refine iL X1363 hx (hb Y at_249) rfl <| iK X1363 hx (z := 0) (hb Y at_251) <| f_stat X1363 hx hZ hO (by rw [hml]; rfl) (w144 hw) (w145 hw) (w2 hw) (w146 hw) e1363 (argsL := [(.int v0_), (.int 0)]) (rest := [(.int ((bump (0 : Int32) v0_ 0) + (bump (0 : Int32) v2_ 0)))]) (own_is l Z a0 hw [] T1296.heap n0 v0_ (0 : Int32)) (lenOf pd4 rfl) (hb Y at_252) fun T1366 L1366 v1366 X1366 hQ1366 => ?_
  obtain ⟨rfl, N1366q, e1366⟩ := hQ1366
  have N1366 := Fr.app N1363 N1366q
  refine iL X1366 hx (hb Y at_255) rfl <| iL X1366 hx (hb Y at_257) rfl <| iK X1366 hx (z := 0) (hb Y at_259) <| f_stat X1366 hx hZ hO (by rw [hml]; rfl) (w144 hw) (w145 hw) (w2 hw) (w146 hw) e1366 (argsL := [(.int v2_), (.int 0)]) (rest := [(.int 1), (.int (isF v0_ (0 : Int32))), (.int ((bump (0 : Int32) v0_ 0) + (bump (0 : Int32) v2_ 0)))]) (own_is l Z a0 hw [] T1296.heap n0 v2_ (0 : Int32)) (lenOf pd4 rfl) (hb Y at_260) fun T1367 L1367 v1367 X1367 hQ1367 => ?_
  obtain ⟨rfl, N1367q, e1367⟩ := hQ1367
  have N1367 := Fr.app N1366 N1367q
  refine f_imul X1367 hx (z := ((1 : Int32) * (isF v2_ (0 : Int32)))) (hb Y at_263) (q := rfl) <| iA X1367 hx (z := ((isF v0_ (0 : Int32)) + ((1 : Int32) * (isF v2_ (0 : Int32))))) (hb Y at_264) (q := rfl) <| cN X1367 hx (hb Y at_265) (hc := (teq (by rcases hv0 with rfl | rfl | rfl <;> rcases hv2 with rfl | rfl | rfl <;>  decide +kernel : ((bump (0 : Int32) v0_ 0) + (bump (0 : Int32) v2_ 0)) = ((isF v0_ (0 : Int32)) + ((1 : Int32) * (isF v2_ (0 : Int32)))))).2) <| iK X1367 hx (z := 1) (hb Y at_268) <| gT X1367 hx (pc := 269) 273 (hb Y at_269) <| iS X1367 hx (L' := #[(iv p0), (iv p1), (iv p2), (iv p3), (iv p4), (iv v0_), (iv v1_), (iv v2_), (iv v3_), (iv 0), (iv 1), (rv b12), (rv b36), (rv b60), (rv b328), (iv (((isF v0_ (2 : Int32)) &&& (isF v1_ (2 : Int32))) + ((1 : Int32) * ((isF v2_ (2 : Int32)) &&& (isF v3_ (2 : Int32)))))), (iv 1)]) (hb Y at_273) rfl <| iL X1367 hx (hb Y at_275) rfl <| fN X1367 hx (hb Y at_277) <| aA X1367 hx (hb Y at_280) rfl rfl <| iK X1367 hx (z := 0) (hb Y at_282) <| vV X1367 hx hZ hO (by rw [hml]; rfl) (w162 hw) (w163 hw) (w165 hw) (w164 hw) (w7 hw) (w166 hw) e1367 E_b12 (argsL := [(.int 0)]) (rest := []) (q1370 l Z a0 hw [] T1296.heap n0 b12 b34 kb33 v0_ v2_ v1_ v3_ F_b12_losses V_b34) (lenOf pd0 rfl) (hb Y at_283) fun T1368 L1368 v1368 X1368 hQ1368 => ?_
  obtain ⟨rfl, N1368q, e1368⟩ := hQ1368
  have N1368 := Fr.app N1367 N1368q
  refine iL X1368 hx (hb Y at_286) rfl <| iK X1368 hx (z := 1) (hb Y at_288) <| f_stat X1368 hx hZ hO (by rw [hml]; rfl) (w144 hw) (w145 hw) (w2 hw) (w146 hw) e1368 (argsL := [(.int v0_), (.int 1)]) (rest := [(.int ((bump (0 : Int32) v0_ 1) + (bump (0 : Int32) v2_ 1)))]) (own_is l Z a0 hw [] T1296.heap n0 v0_ (1 : Int32)) (lenOf pd4 rfl) (hb Y at_289) fun T1371 L1371 v1371 X1371 hQ1371 => ?_
  obtain ⟨rfl, N1371q, e1371⟩ := hQ1371
  have N1371 := Fr.app N1368 N1371q
  refine iL X1371 hx (hb Y at_292) rfl <| iL X1371 hx (hb Y at_294) rfl <| iK X1371 hx (z := 1) (hb Y at_296) <| f_stat X1371 hx hZ hO (by rw [hml]; rfl) (w144 hw) (w145 hw) (w2 hw) (w146 hw) e1371 (argsL := [(.int v2_), (.int 1)]) (rest := [(.int 1), (.int (isF v0_ (1 : Int32))), (.int ((bump (0 : Int32) v0_ 1) + (bump (0 : Int32) v2_ 1)))]) (own_is l Z a0 hw [] T1296.heap n0 v2_ (1 : Int32)) (lenOf pd4 rfl) (hb Y at_297) fun T1372 L1372 v1372 X1372 hQ1372 => ?_
  obtain ⟨rfl, N1372q, e1372⟩ := hQ1372
  have N1372 := Fr.app N1371 N1372q
  refine f_imul X1372 hx (z := ((1 : Int32) * (isF v2_ (1 : Int32)))) (hb Y at_300) (q := rfl) <| iA X1372 hx (z := ((isF v0_ (1 : Int32)) + ((1 : Int32) * (isF v2_ (1 : Int32))))) (hb Y at_301) (q := rfl) <| cN X1372 hx (hb Y at_302) (hc := (teq (by rcases hv0 with rfl | rfl | rfl <;> rcases hv2 with rfl | rfl | rfl <;>  decide +kernel : ((bump (0 : Int32) v0_ 1) + (bump (0 : Int32) v2_ 1)) = ((isF v0_ (1 : Int32)) + ((1 : Int32) * (isF v2_ (1 : Int32)))))).2) <| iK X1372 hx (z := 1) (hb Y at_305) <| gT X1372 hx (pc := 306) 310 (hb Y at_306) <| iS X1372 hx (L' := #[(iv p0), (iv p1), (iv p2), (iv p3), (iv p4), (iv v0_), (iv v1_), (iv v2_), (iv v3_), (iv 0), (iv 1), (rv b12), (rv b36), (rv b60), (rv b328), (iv (((isF v0_ (2 : Int32)) &&& (isF v1_ (2 : Int32))) + ((1 : Int32) * ((isF v2_ (2 : Int32)) &&& (isF v3_ (2 : Int32)))))), (iv 1)]) (hb Y at_310) rfl <| iL X1372 hx (hb Y at_312) rfl <| fN X1372 hx (hb Y at_314) <| aA X1372 hx (hb Y at_317) rfl rfl <| iK X1372 hx (z := 0) (hb Y at_319) <| vV X1372 hx hZ hO (by rw [hml]; rfl) (w167 hw) (w168 hw) (w170 hw) (w169 hw) (w7 hw) (w171 hw) e1372 E_b12 (argsL := [(.int 0)]) (rest := []) (q1375 l Z a0 hw [] T1296.heap n0 b12 b32 kb31 v0_ v2_ v1_ v3_ F_b12_draws V_b32) (lenOf pd0 rfl) (hb Y at_320) fun T1373 L1373 v1373 X1373 hQ1373 => ?_
  obtain ⟨rfl, N1373q, e1373⟩ := hQ1373
  have N1373 := Fr.app N1372 N1373q
  refine iL X1373 hx (hb Y at_323) rfl <| iK X1373 hx (z := 2) (hb Y at_325) <| f_stat X1373 hx hZ hO (by rw [hml]; rfl) (w144 hw) (w145 hw) (w2 hw) (w146 hw) e1373 (argsL := [(.int v0_), (.int 2)]) (rest := [(.int ((bump (0 : Int32) v0_ 2) + (bump (0 : Int32) v2_ 2)))]) (own_is l Z a0 hw [] T1296.heap n0 v0_ (2 : Int32)) (lenOf pd4 rfl) (hb Y at_326) fun T1376 L1376 v1376 X1376 hQ1376 => ?_
  obtain ⟨rfl, N1376q, e1376⟩ := hQ1376
  have N1376 := Fr.app N1373 N1376q
  refine iL X1376 hx (hb Y at_329) rfl <| iL X1376 hx (hb Y at_331) rfl <| iK X1376 hx (z := 2) (hb Y at_333) <| f_stat X1376 hx hZ hO (by rw [hml]; rfl) (w144 hw) (w145 hw) (w2 hw) (w146 hw) e1376 (argsL := [(.int v2_), (.int 2)]) (rest := [(.int 1), (.int (isF v0_ (2 : Int32))), (.int ((bump (0 : Int32) v0_ 2) + (bump (0 : Int32) v2_ 2)))]) (own_is l Z a0 hw [] T1296.heap n0 v2_ (2 : Int32)) (lenOf pd4 rfl) (hb Y at_334) fun T1377 L1377 v1377 X1377 hQ1377 => ?_
  obtain ⟨rfl, N1377q, e1377⟩ := hQ1377
  have N1377 := Fr.app N1376 N1377q
  refine f_imul X1377 hx (z := ((1 : Int32) * (isF v2_ (2 : Int32)))) (hb Y at_337) (q := rfl) <| iA X1377 hx (z := ((isF v0_ (2 : Int32)) + ((1 : Int32) * (isF v2_ (2 : Int32))))) (hb Y at_338) (q := rfl) <| cN X1377 hx (hb Y at_339) (hc := (teq (by rcases hv0 with rfl | rfl | rfl <;> rcases hv2 with rfl | rfl | rfl <;>  decide +kernel : ((bump (0 : Int32) v0_ 2) + (bump (0 : Int32) v2_ 2)) = ((isF v0_ (2 : Int32)) + ((1 : Int32) * (isF v2_ (2 : Int32)))))).2) <| iK X1377 hx (z := 1) (hb Y at_342) <| gT X1377 hx (pc := 343) 347 (hb Y at_343) <| iS X1377 hx (L' := #[(iv p0), (iv p1), (iv p2), (iv p3), (iv p4), (iv v0_), (iv v1_), (iv v2_), (iv v3_), (iv 0), (iv 1), (rv b12), (rv b36), (rv b60), (rv b328), (iv (((isF v0_ (2 : Int32)) &&& (isF v1_ (2 : Int32))) + ((1 : Int32) * ((isF v2_ (2 : Int32)) &&& (isF v3_ (2 : Int32)))))), (iv 1)]) (hb Y at_347) rfl <| iL X1377 hx (hb Y at_349) rfl <| fN X1377 hx (hb Y at_351) <| aA X1377 hx (hb Y at_354) rfl rfl <| iK X1377 hx (z := 1) (hb Y at_356) <| vV X1377 hx hZ hO (by rw [hml]; rfl) (w157 hw) (w158 hw) (w160 hw) (w159 hw) (w7 hw) (w161 hw) e1377 E_b12 (argsL := [(.int 1)]) (rest := []) (q1380 l Z a0 hw [] T1296.heap n0 b12 b30 kb29 v0_ v2_ v1_ v3_ F_b12_wins V_b30) (lenOf pd0 rfl) (hb Y at_357) fun T1378 L1378 v1378 X1378 hQ1378 => ?_
  obtain ⟨rfl, N1378q, e1378⟩ := hQ1378
  have N1378 := Fr.app N1377 N1378q
  refine iL X1378 hx (hb Y at_360) rfl <| iK X1378 hx (z := 0) (hb Y at_362) <| f_stat X1378 hx hZ hO (by rw [hml]; rfl) (w144 hw) (w145 hw) (w2 hw) (w146 hw) e1378 (argsL := [(.int v1_), (.int 0)]) (rest := [(.int ((bump (0 : Int32) v1_ 0) + (bump (0 : Int32) v3_ 0)))]) (own_is l Z a0 hw [] T1296.heap n0 v1_ (0 : Int32)) (lenOf pd4 rfl) (hb Y at_363) fun T1381 L1381 v1381 X1381 hQ1381 => ?_
  obtain ⟨rfl, N1381q, e1381⟩ := hQ1381
  have N1381 := Fr.app N1378 N1381q
  refine iL X1381 hx (hb Y at_366) rfl <| iL X1381 hx (hb Y at_368) rfl <| iK X1381 hx (z := 0) (hb Y at_370) <| f_stat X1381 hx hZ hO (by rw [hml]; rfl) (w144 hw) (w145 hw) (w2 hw) (w146 hw) e1381 (argsL := [(.int v3_), (.int 0)]) (rest := [(.int 1), (.int (isF v1_ (0 : Int32))), (.int ((bump (0 : Int32) v1_ 0) + (bump (0 : Int32) v3_ 0)))]) (own_is l Z a0 hw [] T1296.heap n0 v3_ (0 : Int32)) (lenOf pd4 rfl) (hb Y at_371) fun T1382 L1382 v1382 X1382 hQ1382 => ?_
  obtain ⟨rfl, N1382q, e1382⟩ := hQ1382
  have N1382 := Fr.app N1381 N1382q
  refine f_imul X1382 hx (z := ((1 : Int32) * (isF v3_ (0 : Int32)))) (hb Y at_374) (q := rfl) <| iA X1382 hx (z := ((isF v1_ (0 : Int32)) + ((1 : Int32) * (isF v3_ (0 : Int32))))) (hb Y at_375) (q := rfl) <| cN X1382 hx (hb Y at_376) (hc := (teq (by rcases hv1 with rfl | rfl | rfl <;> rcases hv3 with rfl | rfl | rfl <;>  decide +kernel : ((bump (0 : Int32) v1_ 0) + (bump (0 : Int32) v3_ 0)) = ((isF v1_ (0 : Int32)) + ((1 : Int32) * (isF v3_ (0 : Int32)))))).2) <| iK X1382 hx (z := 1) (hb Y at_379) <| gT X1382 hx (pc := 380) 384 (hb Y at_380) <| iS X1382 hx (L' := #[(iv p0), (iv p1), (iv p2), (iv p3), (iv p4), (iv v0_), (iv v1_), (iv v2_), (iv v3_), (iv 0), (iv 1), (rv b12), (rv b36), (rv b60), (rv b328), (iv (((isF v0_ (2 : Int32)) &&& (isF v1_ (2 : Int32))) + ((1 : Int32) * ((isF v2_ (2 : Int32)) &&& (isF v3_ (2 : Int32)))))), (iv 1)]) (hb Y at_384) rfl <| iL X1382 hx (hb Y at_386) rfl <| fN X1382 hx (hb Y at_388) <| aA X1382 hx (hb Y at_391) rfl rfl <| iK X1382 hx (z := 1) (hb Y at_393) <| vV X1382 hx hZ hO (by rw [hml]; rfl) (w162 hw) (w163 hw) (w165 hw) (w164 hw) (w7 hw) (w166 hw) e1382 E_b12 (argsL := [(.int 1)]) (rest := []) (q1385 l Z a0 hw [] T1296.heap n0 b12 b34 kb33 v0_ v2_ v1_ v3_ F_b12_losses V_b34) (lenOf pd0 rfl) (hb Y at_394) fun T1383 L1383 v1383 X1383 hQ1383 => ?_
  obtain ⟨rfl, N1383q, e1383⟩ := hQ1383
  have N1383 := Fr.app N1382 N1383q
  refine iL X1383 hx (hb Y at_397) rfl <| iK X1383 hx (z := 1) (hb Y at_399) <| f_stat X1383 hx hZ hO (by rw [hml]; rfl) (w144 hw) (w145 hw) (w2 hw) (w146 hw) e1383 (argsL := [(.int v1_), (.int 1)]) (rest := [(.int ((bump (0 : Int32) v1_ 1) + (bump (0 : Int32) v3_ 1)))]) (own_is l Z a0 hw [] T1296.heap n0 v1_ (1 : Int32)) (lenOf pd4 rfl) (hb Y at_400) fun T1386 L1386 v1386 X1386 hQ1386 => ?_
  obtain ⟨rfl, N1386q, e1386⟩ := hQ1386
  have N1386 := Fr.app N1383 N1386q
  refine iL X1386 hx (hb Y at_403) rfl <| iL X1386 hx (hb Y at_405) rfl <| iK X1386 hx (z := 1) (hb Y at_407) <| f_stat X1386 hx hZ hO (by rw [hml]; rfl) (w144 hw) (w145 hw) (w2 hw) (w146 hw) e1386 (argsL := [(.int v3_), (.int 1)]) (rest := [(.int 1), (.int (isF v1_ (1 : Int32))), (.int ((bump (0 : Int32) v1_ 1) + (bump (0 : Int32) v3_ 1)))]) (own_is l Z a0 hw [] T1296.heap n0 v3_ (1 : Int32)) (lenOf pd4 rfl) (hb Y at_408) fun T1387 L1387 v1387 X1387 hQ1387 => ?_
  obtain ⟨rfl, N1387q, e1387⟩ := hQ1387
  have N1387 := Fr.app N1386 N1387q
  refine f_imul X1387 hx (z := ((1 : Int32) * (isF v3_ (1 : Int32)))) (hb Y at_411) (q := rfl) <| iA X1387 hx (z := ((isF v1_ (1 : Int32)) + ((1 : Int32) * (isF v3_ (1 : Int32))))) (hb Y at_412) (q := rfl) <| cN X1387 hx (hb Y at_413) (hc := (teq (by rcases hv1 with rfl | rfl | rfl <;> rcases hv3 with rfl | rfl | rfl <;>  decide +kernel : ((bump (0 : Int32) v1_ 1) + (bump (0 : Int32) v3_ 1)) = ((isF v1_ (1 : Int32)) + ((1 : Int32) * (isF v3_ (1 : Int32)))))).2) <| iK X1387 hx (z := 1) (hb Y at_416) <| gT X1387 hx (pc := 417) 421 (hb Y at_417) <| iS X1387 hx (L' := #[(iv p0), (iv p1), (iv p2), (iv p3), (iv p4), (iv v0_), (iv v1_), (iv v2_), (iv v3_), (iv 0), (iv 1), (rv b12), (rv b36), (rv b60), (rv b328), (iv (((isF v0_ (2 : Int32)) &&& (isF v1_ (2 : Int32))) + ((1 : Int32) * ((isF v2_ (2 : Int32)) &&& (isF v3_ (2 : Int32)))))), (iv 1)]) (hb Y at_421) rfl <| iL X1387 hx (hb Y at_423) rfl <| fN X1387 hx (hb Y at_425) <| aA X1387 hx (hb Y at_428) rfl rfl <| iK X1387 hx (z := 1) (hb Y at_430) <| vV X1387 hx hZ hO (by rw [hml]; rfl) (w167 hw) (w168 hw) (w170 hw) (w169 hw) (w7 hw) (w171 hw) e1387 E_b12 (argsL := [(.int 1)]) (rest := []) (q1390 l Z a0 hw [] T1296.heap n0 b12 b32 kb31 v0_ v2_ v1_ v3_ F_b12_draws V_b32) (lenOf pd0 rfl) (hb Y at_431) fun T1388 L1388 v1388 X1388 hQ1388 => ?_
  obtain ⟨rfl, N1388q, e1388⟩ := hQ1388
  have N1388 := Fr.app N1387 N1388q
  refine iL X1388 hx (hb Y at_434) rfl <| iK X1388 hx (z := 2) (hb Y at_436) <| f_stat X1388 hx hZ hO (by rw [hml]; rfl) (w144 hw) (w145 hw) (w2 hw) (w146 hw) e1388 (argsL := [(.int v1_), (.int 2)]) (rest := [(.int ((bump (0 : Int32) v1_ 2) + (bump (0 : Int32) v3_ 2)))]) (own_is l Z a0 hw [] T1296.heap n0 v1_ (2 : Int32)) (lenOf pd4 rfl) (hb Y at_437) fun T1391 L1391 v1391 X1391 hQ1391 => ?_
  obtain ⟨rfl, N1391q, e1391⟩ := hQ1391
  have N1391 := Fr.app N1388 N1391q
  refine iL X1391 hx (hb Y at_440) rfl <| iL X1391 hx (hb Y at_442) rfl <| iK X1391 hx (z := 2) (hb Y at_444) <| f_stat X1391 hx hZ hO (by rw [hml]; rfl) (w144 hw) (w145 hw) (w2 hw) (w146 hw) e1391 (argsL := [(.int v3_), (.int 2)]) (rest := [(.int 1), (.int (isF v1_ (2 : Int32))), (.int ((bump (0 : Int32) v1_ 2) + (bump (0 : Int32) v3_ 2)))]) (own_is l Z a0 hw [] T1296.heap n0 v3_ (2 : Int32)) (lenOf pd4 rfl) (hb Y at_445) fun T1392 L1392 v1392 X1392 hQ1392 => ?_
  obtain ⟨rfl, N1392q, e1392⟩ := hQ1392
  have N1392 := Fr.app N1391 N1392q
  refine f_imul X1392 hx (z := ((1 : Int32) * (isF v3_ (2 : Int32)))) (hb Y at_448) (q := rfl) <| iA X1392 hx (z := ((isF v1_ (2 : Int32)) + ((1 : Int32) * (isF v3_ (2 : Int32))))) (hb Y at_449) (q := rfl) <| cN X1392 hx (hb Y at_450) (hc := (teq (by rcases hv1 with rfl | rfl | rfl <;> rcases hv3 with rfl | rfl | rfl <;>  decide +kernel : ((bump (0 : Int32) v1_ 2) + (bump (0 : Int32) v3_ 2)) = ((isF v1_ (2 : Int32)) + ((1 : Int32) * (isF v3_ (2 : Int32)))))).2) <| iK X1392 hx (z := 1) (hb Y at_453) <| gT X1392 hx (pc := 454) 458 (hb Y at_454) <| iS X1392 hx (L' := #[(iv p0), (iv p1), (iv p2), (iv p3), (iv p4), (iv v0_), (iv v1_), (iv v2_), (iv v3_), (iv 0), (iv 1), (rv b12), (rv b36), (rv b60), (rv b328), (iv (((isF v0_ (2 : Int32)) &&& (isF v1_ (2 : Int32))) + ((1 : Int32) * ((isF v2_ (2 : Int32)) &&& (isF v3_ (2 : Int32)))))), (iv 1)]) (hb Y at_458) rfl <| iL X1392 hx (hb Y at_460) rfl ?_
  exact f_ret X1392 hx hlk (i := .ireturn) hret rfl (Or.inl ⟨rfl, Or.inr (Or.inl rfl), _, rfl⟩) (hb Y at_462) (QQ := (QL n0)) ⟨rfl, N1392⟩ (by decide) (by decide)
def St32 (Z : State) (h : Heap) (n0 : Nat) (s_WIN : Nat) (s_LOSS : Nat) (s_DRAW : Nat) (s_SW : Nat) (s_EM : Nat) (e0_ : Nat) (e1_ : Nat) (e2_ : Nat) (e3_ : Nat) (c1 : Nat) (c2 : Nat) (c3 : Nat) (c4 : Nat) (c5 : Nat) (c6 : Nat) (c7 : Nat) (c8 : Nat) (c9 : Nat) (c10 : Nat) (c11 : Nat) (c12 : Nat) (k901 : ClassId) (k902 : ClassId) (kc1 : ClassId) (kc2 : ClassId) (kc3 : ClassId) (kc4 : ClassId) (kc5 : ClassId) (kc6 : ClassId) (kc7 : ClassId) (kc8 : ClassId) (v0_ : Int32) (v1_ : Int32) (v2_ : Int32) (v3_ : Int32) : Prop :=
  Sta Z h cR "WIN" "Lcom/example/gamesmith/gamesmith/game/Result;" (.ref s_WIN) ∧
  Sta Z h cR "LOSS" "Lcom/example/gamesmith/gamesmith/game/Result;" (.ref s_LOSS) ∧
  Sta Z h cR "DRAW" "Lcom/example/gamesmith/gamesmith/game/Result;" (.ref s_DRAW) ∧
  Sta Z h "com/example/gamesmith/gamesmith/arena/Tally$1" "$SwitchMap$com$example$gamesmith$gamesmith$game$Result" "[I" (.ref s_SW) ∧
  Sta Z h cA "DEFAULTCAPACITY_EMPTY_ELEMENTDATA" "[Ljava/lang/Object;" (.ref s_EM) ∧
  Exa Z h s_WIN cR ∧
  Fld Z h s_WIN "java/lang/Enum" "ordinal" "I" (.int 0) ∧
  Exa Z h s_LOSS cR ∧
  Fld Z h s_LOSS "java/lang/Enum" "ordinal" "I" (.int 1) ∧
  Exa Z h s_DRAW cR ∧
  Fld Z h s_DRAW "java/lang/Enum" "ordinal" "I" (.int 2) ∧
  Arv Z h s_SW k901 .int 3 [(.int 1), (.int 3), (.int 2)] (.int 0) ∧
  Arv Z h s_EM k902 (.object "java/lang/Object") 0 [] .null ∧
  Exa Z h c1 cT ∧
  Fld Z h c1 cT "wins" "[I" (.ref c2) ∧
  Fld Z h c1 cT "draws" "[I" (.ref c3) ∧
  Fld Z h c1 cT "losses" "[I" (.ref c4) ∧
  Fld Z h c1 cT "matches" "I" (.int ((0 : Int32) + (1 : Int32))) ∧
  Fld Z h c1 cT "drawnMatches" "I" (.int (bumpD (0 : Int32) v0_ v1_)) ∧
  Arv Z h c2 kc1 .int 2 [(.int (bump (0 : Int32) v0_ 0)), (.int (bump (0 : Int32) v1_ 0))] (.int 0) ∧
  Arv Z h c3 kc2 .int 2 [(.int (bump (0 : Int32) v0_ 2)), (.int (bump (0 : Int32) v1_ 2))] (.int 0) ∧
  Arv Z h c4 kc3 .int 2 [(.int (bump (0 : Int32) v0_ 1)), (.int (bump (0 : Int32) v1_ 1))] (.int 0) ∧
  Exa Z h c5 cT ∧
  Fld Z h c5 cT "wins" "[I" (.ref c6) ∧
  Fld Z h c5 cT "draws" "[I" (.ref c7) ∧
  Fld Z h c5 cT "losses" "[I" (.ref c8) ∧
  Fld Z h c5 cT "matches" "I" (.int (((0 : Int32) + (1 : Int32)) + (1 : Int32))) ∧
  Fld Z h c5 cT "drawnMatches" "I" (.int (bumpD (bumpD (0 : Int32) v2_ v3_) v2_ v3_)) ∧
  Arv Z h c6 kc4 .int 2 [(.int (bump (bump (0 : Int32) v2_ 0) v2_ 0)), (.int (bump (bump (0 : Int32) v3_ 0) v3_ 0))] (.int 0) ∧
  Arv Z h c7 kc5 .int 2 [(.int (bump (bump (0 : Int32) v2_ 2) v2_ 2)), (.int (bump (bump (0 : Int32) v3_ 2) v3_ 2))] (.int 0) ∧
  Arv Z h c8 kc6 .int 2 [(.int (bump (bump (0 : Int32) v2_ 1) v2_ 1)), (.int (bump (bump (0 : Int32) v3_ 1) v3_ 1))] (.int 0) ∧
  Exa Z h c9 cA ∧
  Fld Z h c9 "java/util/AbstractList" "modCount" "I" (.int 2) ∧
  Fld Z h c9 cA "elementData" "[Ljava/lang/Object;" (.ref c10) ∧
  Fld Z h c9 cA "size" "I" (.int 2) ∧
  Exa Z h e0_ cR ∧
  Exa Z h c10 "[Ljava/lang/Object;" ∧
  Arv Z h c10 kc7 (.object "java/lang/Object") 10 [(.ref e0_), (.ref e1_), .null, .null, .null, .null, .null, .null, .null, .null] .null ∧
  Ovr Z kc7 "java/lang/Object" ∧
  Exa Z h e1_ cR ∧
  Exa Z h c11 cA ∧
  Fld Z h c11 "java/util/AbstractList" "modCount" "I" (.int 2) ∧
  Fld Z h c11 cA "elementData" "[Ljava/lang/Object;" (.ref c12) ∧
  Fld Z h c11 cA "size" "I" (.int 2) ∧
  Exa Z h e2_ cR ∧
  Exa Z h c12 "[Ljava/lang/Object;" ∧
  Arv Z h c12 kc8 (.object "java/lang/Object") 10 [(.ref e2_), (.ref e3_), .null, .null, .null, .null, .null, .null, .null, .null] .null ∧
  Ovr Z kc8 "java/lang/Object" ∧
  Exa Z h e3_ cR ∧
  n0 ≤ c1 ∧
  c1 < c2 ∧
  c2 < c3 ∧
  c3 < c4 ∧
  c4 < c5 ∧
  c5 < c6 ∧
  c6 < c7 ∧
  c7 < c8 ∧
  c8 < c9 ∧
  c9 < c10 ∧
  c10 < c11 ∧
  c11 < c12 ∧
  s_WIN < n0 ∧
  s_LOSS < n0 ∧
  s_DRAW < n0 ∧
  s_SW < n0 ∧
  s_EM < n0 ∧
  e0_ < n0 ∧
  e1_ < n0 ∧
  e2_ < n0 ∧
  e3_ < n0
def St33 (Z : State) (h : Heap) (n0 : Nat) (s_WIN : Nat) (s_LOSS : Nat) (s_DRAW : Nat) (s_SW : Nat) (s_EM : Nat) (e0_ : Nat) (e1_ : Nat) (e2_ : Nat) (e3_ : Nat) (c1 : Nat) (c2 : Nat) (c3 : Nat) (c4 : Nat) (c5 : Nat) (c6 : Nat) (c7 : Nat) (c8 : Nat) (c9 : Nat) (c10 : Nat) (c11 : Nat) (c12 : Nat) (k901 : ClassId) (k902 : ClassId) (kc1 : ClassId) (kc2 : ClassId) (kc3 : ClassId) (kc4 : ClassId) (kc5 : ClassId) (kc6 : ClassId) (kc7 : ClassId) (kc8 : ClassId) (v0_ : Int32) (v1_ : Int32) (v2_ : Int32) (v3_ : Int32) : Prop :=
  Sta Z h cR "WIN" "Lcom/example/gamesmith/gamesmith/game/Result;" (.ref s_WIN) ∧
  Sta Z h cR "LOSS" "Lcom/example/gamesmith/gamesmith/game/Result;" (.ref s_LOSS) ∧
  Sta Z h cR "DRAW" "Lcom/example/gamesmith/gamesmith/game/Result;" (.ref s_DRAW) ∧
  Sta Z h "com/example/gamesmith/gamesmith/arena/Tally$1" "$SwitchMap$com$example$gamesmith$gamesmith$game$Result" "[I" (.ref s_SW) ∧
  Sta Z h cA "DEFAULTCAPACITY_EMPTY_ELEMENTDATA" "[Ljava/lang/Object;" (.ref s_EM) ∧
  Exa Z h s_WIN cR ∧
  Fld Z h s_WIN "java/lang/Enum" "ordinal" "I" (.int 0) ∧
  Exa Z h s_LOSS cR ∧
  Fld Z h s_LOSS "java/lang/Enum" "ordinal" "I" (.int 1) ∧
  Exa Z h s_DRAW cR ∧
  Fld Z h s_DRAW "java/lang/Enum" "ordinal" "I" (.int 2) ∧
  Arv Z h s_SW k901 .int 3 [(.int 1), (.int 3), (.int 2)] (.int 0) ∧
  Arv Z h s_EM k902 (.object "java/lang/Object") 0 [] .null ∧
  Exa Z h c1 cT ∧
  Fld Z h c1 cT "wins" "[I" (.ref c2) ∧
  Fld Z h c1 cT "draws" "[I" (.ref c3) ∧
  Fld Z h c1 cT "losses" "[I" (.ref c4) ∧
  Fld Z h c1 cT "matches" "I" (.int (((0 : Int32) + (1 : Int32)) + (((0 : Int32) + (1 : Int32)) + (1 : Int32)))) ∧
  Fld Z h c1 cT "drawnMatches" "I" (.int ((bumpD (0 : Int32) v0_ v1_) + (bumpD (bumpD (0 : Int32) v2_ v3_) v2_ v3_))) ∧
  Arv Z h c2 kc1 .int 2 [(.int ((bump (0 : Int32) v0_ 0) + (bump (bump (0 : Int32) v2_ 0) v2_ 0))), (.int ((bump (0 : Int32) v1_ 0) + (bump (bump (0 : Int32) v3_ 0) v3_ 0)))] (.int 0) ∧
  Arv Z h c3 kc2 .int 2 [(.int ((bump (0 : Int32) v0_ 2) + (bump (bump (0 : Int32) v2_ 2) v2_ 2))), (.int ((bump (0 : Int32) v1_ 2) + (bump (bump (0 : Int32) v3_ 2) v3_ 2)))] (.int 0) ∧
  Arv Z h c4 kc3 .int 2 [(.int ((bump (0 : Int32) v0_ 1) + (bump (bump (0 : Int32) v2_ 1) v2_ 1))), (.int ((bump (0 : Int32) v1_ 1) + (bump (bump (0 : Int32) v3_ 1) v3_ 1)))] (.int 0) ∧
  Exa Z h c5 cT ∧
  Fld Z h c5 cT "wins" "[I" (.ref c6) ∧
  Fld Z h c5 cT "draws" "[I" (.ref c7) ∧
  Fld Z h c5 cT "losses" "[I" (.ref c8) ∧
  Fld Z h c5 cT "matches" "I" (.int (((0 : Int32) + (1 : Int32)) + (1 : Int32))) ∧
  Fld Z h c5 cT "drawnMatches" "I" (.int (bumpD (bumpD (0 : Int32) v2_ v3_) v2_ v3_)) ∧
  Arv Z h c6 kc4 .int 2 [(.int (bump (bump (0 : Int32) v2_ 0) v2_ 0)), (.int (bump (bump (0 : Int32) v3_ 0) v3_ 0))] (.int 0) ∧
  Arv Z h c7 kc5 .int 2 [(.int (bump (bump (0 : Int32) v2_ 2) v2_ 2)), (.int (bump (bump (0 : Int32) v3_ 2) v3_ 2))] (.int 0) ∧
  Arv Z h c8 kc6 .int 2 [(.int (bump (bump (0 : Int32) v2_ 1) v2_ 1)), (.int (bump (bump (0 : Int32) v3_ 1) v3_ 1))] (.int 0) ∧
  Exa Z h c9 cA ∧
  Fld Z h c9 "java/util/AbstractList" "modCount" "I" (.int 2) ∧
  Fld Z h c9 cA "elementData" "[Ljava/lang/Object;" (.ref c10) ∧
  Fld Z h c9 cA "size" "I" (.int 2) ∧
  Exa Z h e0_ cR ∧
  Exa Z h c10 "[Ljava/lang/Object;" ∧
  Arv Z h c10 kc7 (.object "java/lang/Object") 10 [(.ref e0_), (.ref e1_), .null, .null, .null, .null, .null, .null, .null, .null] .null ∧
  Ovr Z kc7 "java/lang/Object" ∧
  Exa Z h e1_ cR ∧
  Exa Z h c11 cA ∧
  Fld Z h c11 "java/util/AbstractList" "modCount" "I" (.int 2) ∧
  Fld Z h c11 cA "elementData" "[Ljava/lang/Object;" (.ref c12) ∧
  Fld Z h c11 cA "size" "I" (.int 2) ∧
  Exa Z h e2_ cR ∧
  Exa Z h c12 "[Ljava/lang/Object;" ∧
  Arv Z h c12 kc8 (.object "java/lang/Object") 10 [(.ref e2_), (.ref e3_), .null, .null, .null, .null, .null, .null, .null, .null] .null ∧
  Ovr Z kc8 "java/lang/Object" ∧
  Exa Z h e3_ cR ∧
  n0 ≤ c1 ∧
  c1 < c2 ∧
  c2 < c3 ∧
  c3 < c4 ∧
  c4 < c5 ∧
  c5 < c6 ∧
  c6 < c7 ∧
  c7 < c8 ∧
  c8 < c9 ∧
  c9 < c10 ∧
  c10 < c11 ∧
  c11 < c12 ∧
  s_WIN < n0 ∧
  s_LOSS < n0 ∧
  s_DRAW < n0 ∧
  s_SW < n0 ∧
  s_EM < n0 ∧
  e0_ < n0 ∧
  e1_ < n0 ∧
  e2_ < n0 ∧
  e3_ < n0
def Qm1592 (Z : State) (n0 : Nat) (s_WIN : Nat) (s_LOSS : Nat) (s_DRAW : Nat) (s_SW : Nat) (s_EM : Nat) (e0_ : Nat) (e1_ : Nat) (e2_ : Nat) (e3_ : Nat) (c1 : Nat) (c2 : Nat) (c3 : Nat) (c4 : Nat) (c5 : Nat) (c6 : Nat) (c7 : Nat) (c8 : Nat) (c9 : Nat) (c10 : Nat) (c11 : Nat) (c12 : Nat) (k901 : ClassId) (k902 : ClassId) (kc1 : ClassId) (kc2 : ClassId) (kc3 : ClassId) (kc4 : ClassId) (kc5 : ClassId) (kc6 : ClassId) (kc7 : ClassId) (kc8 : ClassId) (v0_ : Int32) (v1_ : Int32) (v2_ : Int32) (v3_ : Int32) (v : Option Value) (h : Heap) (L : List Loc) : Prop := v = none ∧ Fr n0 L ∧ St33 Z h n0 s_WIN s_LOSS s_DRAW s_SW s_EM e0_ e1_ e2_ e3_ c1 c2 c3 c4 c5 c6 c7 c8 c9 c10 c11 c12 k901 k902 kc1 kc2 kc3 kc4 kc5 kc6 kc7 kc8 v0_ v1_ v2_ v3_
theorem m1592 (l : Launch) (Z : State) (a0 : Array Value) (hw : HW a0 Z) (ws : List Jvm.Cond) (h0 : Heap) (n0 : Nat) (s_WIN : Nat) (s_LOSS : Nat) (s_DRAW : Nat) (s_SW : Nat) (s_EM : Nat) (e0_ : Nat) (e1_ : Nat) (e2_ : Nat) (e3_ : Nat) (c1 : Nat) (c2 : Nat) (c3 : Nat) (c4 : Nat) (c5 : Nat) (c6 : Nat) (c7 : Nat) (c8 : Nat) (c9 : Nat) (c10 : Nat) (c11 : Nat) (c12 : Nat) (k901 : ClassId) (k902 : ClassId) (kc1 : ClassId) (kc2 : ClassId) (kc3 : ClassId) (kc4 : ClassId) (kc5 : ClassId) (kc6 : ClassId) (kc7 : ClassId) (kc8 : ClassId) (v0_ : Int32) (v1_ : Int32) (v2_ : Int32) (v3_ : Int32) (P : St32 Z h0 n0 s_WIN s_LOSS s_DRAW s_SW s_EM e0_ e1_ e2_ e3_ c1 c2 c3 c4 c5 c6 c7 c8 c9 c10 c11 c12 k901 k902 kc1 kc2 kc3 kc4 kc5 kc6 kc7 kc8 v0_ v1_ v2_ v3_) :
    MC l Z y19 prog_6_method_3_code 3 none ws rm_0_0_0_0 #[(.ref c1), (.ref c5)] h0 (Qm1592 Z n0 s_WIN s_LOSS s_DRAW s_SW s_EM e0_ e1_ e2_ e3_ c1 c2 c3 c4 c5 c6 c7 c8 c9 c10 c11 c12 k901 k902 kc1 kc2 kc3 kc4 kc5 kc6 kc7 kc8 v0_ v1_ v2_ v3_) := by
  obtain ⟨S_WIN, S_LOSS, S_DRAW, S__SwitchMap_com_example_g, S_DEFAULTCAPACITY_EMPTY_EL, E_s_WIN, F_s_WIN_ordinal, E_s_LOSS, F_s_LOSS_ordinal, E_s_DRAW, F_s_DRAW_ordinal, V_s_SW, V_s_EM, E_c1, F_c1_wins, F_c1_draws, F_c1_losses, F_c1_matches, F_c1_drawnMatches, V_c2, V_c3, V_c4, E_c5, F_c5_wins, F_c5_draws, F_c5_losses, F_c5_matches, F_c5_drawnMatches, V_c6, V_c7, V_c8, E_c9, F_c9_modCount, F_c9_elementData, F_c9_s, E_e0_, E_c10, V_c10, O_c10, E_e1_, E_c11, F_c11_modCount, F_c11_elementData, F_c11_s, E_e2_, E_c12, V_c12, O_c12, E_e3_, g_c1, lt_c1_c2, lt_c2_c3, lt_c3_c4, lt_c4_c5, lt_c5_c6, lt_c6_c7, lt_c7_c8, lt_c8_c9, lt_c9_c10, lt_c10_c11, lt_c11_c12, od_s_WIN, od_s_LOSS, od_s_DRAW, od_s_SW, od_s_EM, od_e0_, od_e1_, od_e2_, od_e3_⟩ := id P
  refine own_met (plainFor_of_name pn19) fun p e s m below meth c s₁ X0 hx hZ Y hml hO hnm hlk hret e0 => f_cast (f' := mkF m 0 #[(rv c1), (rv c5), .unset] []) (by first | (simp [entryFrame, mkF, argsToLocals, Value.category]; done) | rfl) ?_
  have N0 := Fr.nil n0
  refine iK X0 hx (z := 0) (hb Y d19_0) <| sN X0 hx (L' := #[(rv c1), (rv c5), (iv 0)]) (hb Y d19_1) rfl <| iN X0 hx (hb Y d19_2) rfl <| aN X0 hx (hb Y d19_3) rfl rfl <| gF X0 hx hZ hO (w15 hw) Via.refl e0 F_c1_wins (hb Y d19_4) fun T1565 X1565 e1565 => ?_
  refine f_len X1565 hx hZ e1565 V_c2 (hb Y d19_7) <| cN X1565 hx (hb Y d19_8) <| aN X1565 hx (hb Y d19_11) rfl rfl <| gF X1565 hx hZ hO (w15 hw) Via.refl e1565 F_c1_wins (hb Y d19_12) fun T1566 X1566 e1566 => ?_
  refine iN X1566 hx (hb Y d19_15) rfl <| f_dup2 X1566 hx (hb Y d19_16) rfl rfl <| f_iald X1566 hx hZ e1566 V_c2 (v := (.int (bump (0 : Int32) v0_ 0))) rfl (hb Y d19_17) <| aN X1566 hx (hb Y d19_18) rfl rfl <| gF X1566 hx hZ hO (w15 hw) Via.refl e1566 F_c5_wins (hb Y d19_19) fun T1567 X1567 e1567 => ?_
  refine iN X1567 hx (hb Y d19_22) rfl <| f_iald X1567 hx hZ e1567 V_c6 (v := (.int (bump (bump (0 : Int32) v2_ 0) v2_ 0))) rfl (hb Y d19_23) <| iA X1567 hx (z := ((bump (0 : Int32) v0_ 0) + (bump (bump (0 : Int32) v2_ 0) v2_ 0))) (hb Y d19_24) (q := rfl) <| f_ist X1567 hx hZ e1567 V_c2 0 (hb Y d19_25) fun T1568 h1568 X1568 e1568 W1568 V1568 => ?_
  have N1568x := Fr.snoc X1568 N0 (by omega : n0 ≤ c2)
  refine aN X1568 hx (hb Y d19_26) rfl rfl ?_
  replace F_c1_draws := (fo W1568 F_c1_draws)
  refine gF X1568 hx hZ hO (w17 hw) Via.refl e1568 F_c1_draws (hb Y d19_27) fun T1569 X1569 e1569 => ?_
  refine iN X1569 hx (hb Y d19_30) rfl <| f_dup2 X1569 hx (hb Y d19_31) rfl rfl ?_
  replace V_c3 := (vo V_c3 W1568)
  refine f_iald X1569 hx hZ e1569 V_c3 (v := (.int (bump (0 : Int32) v0_ 2))) rfl (hb Y d19_32) <| aN X1569 hx (hb Y d19_33) rfl rfl ?_
  replace F_c5_draws := (fo W1568 F_c5_draws)
  refine gF X1569 hx hZ hO (w17 hw) Via.refl e1569 F_c5_draws (hb Y d19_34) fun T1570 X1570 e1570 => ?_
  refine iN X1570 hx (hb Y d19_37) rfl ?_
  replace V_c7 := (vo V_c7 W1568)
  refine f_iald X1570 hx hZ e1570 V_c7 (v := (.int (bump (bump (0 : Int32) v2_ 2) v2_ 2))) rfl (hb Y d19_38) <| iA X1570 hx (z := ((bump (0 : Int32) v0_ 2) + (bump (bump (0 : Int32) v2_ 2) v2_ 2))) (hb Y d19_39) (q := rfl) <| f_ist X1570 hx hZ e1570 V_c3 0 (hb Y d19_40) fun T1571 h1571 X1571 e1571 W1571 V1571 => ?_
  have N1571x := Fr.snoc X1571 N1568x (by omega : n0 ≤ c3)
  refine aN X1571 hx (hb Y d19_41) rfl rfl ?_
  replace F_c1_losses := (fo W1571 (fo W1568 F_c1_losses))
  refine gF X1571 hx hZ hO (w19 hw) Via.refl e1571 F_c1_losses (hb Y d19_42) fun T1572 X1572 e1572 => ?_
  refine iN X1572 hx (hb Y d19_45) rfl <| f_dup2 X1572 hx (hb Y d19_46) rfl rfl ?_
  replace V_c4 := (vo (vo V_c4 W1568) W1571)
  refine f_iald X1572 hx hZ e1572 V_c4 (v := (.int (bump (0 : Int32) v0_ 1))) rfl (hb Y d19_47) <| aN X1572 hx (hb Y d19_48) rfl rfl ?_
  replace F_c5_losses := (fo W1571 (fo W1568 F_c5_losses))
  refine gF X1572 hx hZ hO (w19 hw) Via.refl e1572 F_c5_losses (hb Y d19_49) fun T1573 X1573 e1573 => ?_
  refine iN X1573 hx (hb Y d19_52) rfl ?_
  replace V_c8 := (vo (vo V_c8 W1568) W1571)
  refine f_iald X1573 hx hZ e1573 V_c8 (v := (.int (bump (bump (0 : Int32) v2_ 1) v2_ 1))) rfl (hb Y d19_53) <| iA X1573 hx (z := ((bump (0 : Int32) v0_ 1) + (bump (bump (0 : Int32) v2_ 1) v2_ 1))) (hb Y d19_54) (q := rfl) <| f_ist X1573 hx hZ e1573 V_c4 0 (hb Y d19_55) fun T1574 h1574 X1574 e1574 W1574 V1574 => ?_
  have N1574x := Fr.snoc X1574 N1571x (by omega : n0 ≤ c4)
  refine f_iinc X1574 hx (L' := #[(rv c1), (rv c5), (iv 1)]) (hb Y d19_56) rfl rfl <| gT X1574 hx (pc := 59) 2 (hb Y d19_59) <| iN X1574 hx (hb Y d19_2) rfl <| aN X1574 hx (hb Y d19_3) rfl rfl ?_
  replace F_c1_wins := (fo W1574 (fo W1571 (fo W1568 F_c1_wins)))
  refine gF X1574 hx hZ hO (w15 hw) Via.refl e1574 F_c1_wins (hb Y d19_4) fun T1575 X1575 e1575 => ?_
  replace V_c2 := (vo (vo V1568 W1571) W1574)
  refine f_len X1575 hx hZ e1575 V_c2 (hb Y d19_7) <| cN X1575 hx (hb Y d19_8) <| aN X1575 hx (hb Y d19_11) rfl rfl <| gF X1575 hx hZ hO (w15 hw) Via.refl e1575 F_c1_wins (hb Y d19_12) fun T1576 X1576 e1576 => ?_
  refine iN X1576 hx (hb Y d19_15) rfl <| f_dup2 X1576 hx (hb Y d19_16) rfl rfl <| f_iald X1576 hx hZ e1576 V_c2 (v := (.int (bump (0 : Int32) v1_ 0))) rfl (hb Y d19_17) <| aN X1576 hx (hb Y d19_18) rfl rfl ?_
  replace F_c5_wins := (fo W1574 (fo W1571 (fo W1568 F_c5_wins)))
  refine gF X1576 hx hZ hO (w15 hw) Via.refl e1576 F_c5_wins (hb Y d19_19) fun T1577 X1577 e1577 => ?_
  refine iN X1577 hx (hb Y d19_22) rfl ?_
  replace V_c6 := (vo (vo (vo V_c6 W1568) W1571) W1574)
  refine f_iald X1577 hx hZ e1577 V_c6 (v := (.int (bump (bump (0 : Int32) v3_ 0) v3_ 0))) rfl (hb Y d19_23) <| iA X1577 hx (z := ((bump (0 : Int32) v1_ 0) + (bump (bump (0 : Int32) v3_ 0) v3_ 0))) (hb Y d19_24) (q := rfl) <| f_ist X1577 hx hZ e1577 V_c2 1 (hb Y d19_25) fun T1578 h1578 X1578 e1578 W1578 V1578 => ?_
  have N1578x := Fr.snoc X1578 N1574x (by omega : n0 ≤ c2)
  refine aN X1578 hx (hb Y d19_26) rfl rfl ?_
  replace F_c1_draws := (fo W1578 (fo W1574 (fo W1571 F_c1_draws)))
  refine gF X1578 hx hZ hO (w17 hw) Via.refl e1578 F_c1_draws (hb Y d19_27) fun T1579 X1579 e1579 => ?_
  refine iN X1579 hx (hb Y d19_30) rfl <| f_dup2 X1579 hx (hb Y d19_31) rfl rfl ?_
  replace V_c3 := (vo (vo V1571 W1574) W1578)
  refine f_iald X1579 hx hZ e1579 V_c3 (v := (.int (bump (0 : Int32) v1_ 2))) rfl (hb Y d19_32) <| aN X1579 hx (hb Y d19_33) rfl rfl ?_
  replace F_c5_draws := (fo W1578 (fo W1574 (fo W1571 F_c5_draws)))
  refine gF X1579 hx hZ hO (w17 hw) Via.refl e1579 F_c5_draws (hb Y d19_34) fun T1580 X1580 e1580 => ?_
  refine iN X1580 hx (hb Y d19_37) rfl ?_
  replace V_c7 := (vo (vo (vo V_c7 W1571) W1574) W1578)
  refine f_iald X1580 hx hZ e1580 V_c7 (v := (.int (bump (bump (0 : Int32) v3_ 2) v3_ 2))) rfl (hb Y d19_38) <| iA X1580 hx (z := ((bump (0 : Int32) v1_ 2) + (bump (bump (0 : Int32) v3_ 2) v3_ 2))) (hb Y d19_39) (q := rfl) <| f_ist X1580 hx hZ e1580 V_c3 1 (hb Y d19_40) fun T1581 h1581 X1581 e1581 W1581 V1581 => ?_
  have N1581x := Fr.snoc X1581 N1578x (by omega : n0 ≤ c3)
  refine aN X1581 hx (hb Y d19_41) rfl rfl ?_
  replace F_c1_losses := (fo W1581 (fo W1578 (fo W1574 F_c1_losses)))
  refine gF X1581 hx hZ hO (w19 hw) Via.refl e1581 F_c1_losses (hb Y d19_42) fun T1582 X1582 e1582 => ?_
  refine iN X1582 hx (hb Y d19_45) rfl <| f_dup2 X1582 hx (hb Y d19_46) rfl rfl ?_
  replace V_c4 := (vo (vo V1574 W1578) W1581)
  refine f_iald X1582 hx hZ e1582 V_c4 (v := (.int (bump (0 : Int32) v1_ 1))) rfl (hb Y d19_47) <| aN X1582 hx (hb Y d19_48) rfl rfl ?_
  replace F_c5_losses := (fo W1581 (fo W1578 (fo W1574 F_c5_losses)))
  refine gF X1582 hx hZ hO (w19 hw) Via.refl e1582 F_c5_losses (hb Y d19_49) fun T1583 X1583 e1583 => ?_
  refine iN X1583 hx (hb Y d19_52) rfl ?_
  replace V_c8 := (vo (vo (vo V_c8 W1574) W1578) W1581)
  refine f_iald X1583 hx hZ e1583 V_c8 (v := (.int (bump (bump (0 : Int32) v3_ 1) v3_ 1))) rfl (hb Y d19_53) <| iA X1583 hx (z := ((bump (0 : Int32) v1_ 1) + (bump (bump (0 : Int32) v3_ 1) v3_ 1))) (hb Y d19_54) (q := rfl) <| f_ist X1583 hx hZ e1583 V_c4 1 (hb Y d19_55) fun T1584 h1584 X1584 e1584 W1584 V1584 => ?_
  have N1584x := Fr.snoc X1584 N1581x (by omega : n0 ≤ c4)
  refine f_iinc X1584 hx (L' := #[(rv c1), (rv c5), (iv 2)]) (hb Y d19_56) rfl rfl <| gT X1584 hx (pc := 59) 2 (hb Y d19_59) <| iN X1584 hx (hb Y d19_2) rfl <| aN X1584 hx (hb Y d19_3) rfl rfl ?_
  replace F_c1_wins := (fo W1584 (fo W1581 (fo W1578 F_c1_wins)))
  refine gF X1584 hx hZ hO (w15 hw) Via.refl e1584 F_c1_wins (hb Y d19_4) fun T1585 X1585 e1585 => ?_
  replace V_c2 := (vo (vo V1578 W1581) W1584)
  refine f_len X1585 hx hZ e1585 V_c2 (hb Y d19_7) <| cY X1585 hx (pc := 8) 62 (hb Y d19_8) <| aN X1585 hx (hb Y d19_62) rfl rfl <| f_dup X1585 hx (hb Y d19_63) rfl ?_
  replace F_c1_matches := (fo W1584 (fo W1581 (fo W1578 (fo W1574 (fo W1571 (fo W1568 F_c1_matches))))))
  refine gF X1585 hx hZ hO (w135 hw) Via.refl e1585 F_c1_matches (hb Y d19_64) fun T1586 X1586 e1586 => ?_
  refine aN X1586 hx (hb Y d19_67) rfl rfl ?_
  replace F_c5_matches := (fo W1584 (fo W1581 (fo W1578 (fo W1574 (fo W1571 (fo W1568 F_c5_matches))))))
  refine gF X1586 hx hZ hO (w135 hw) Via.refl e1586 F_c5_matches (hb Y d19_68) fun T1587 X1587 e1587 => ?_
  refine iA X1587 hx (z := (((0 : Int32) + (1 : Int32)) + (((0 : Int32) + (1 : Int32)) + (1 : Int32)))) (hb Y d19_71) (q := rfl) ?_
  replace E_c1 := (xw W1584 (xw W1581 (xw W1578 (xw W1574 (xw W1571 (xw W1568 E_c1))))))
  refine f_putF X1587 hx hZ hO (w135 hw) Via.refl e1587 F_c1_matches E_c1 (Or.inl (w136 hw)) (w6 hw) (ty := .int) (by decide) rfl rfl (hb Y d19_72) fun T1588 h1588 X1588 e1588 W1588 => ?_
  have N1588x := Fr.snoc X1588 N1584x (by omega : n0 ≤ c1)
  refine aN X1588 hx (hb Y d19_75) rfl rfl <| f_dup X1588 hx (hb Y d19_76) rfl ?_
  replace F_c1_drawnMatches := (Fld.other W1588 (fo W1584 (fo W1581 (fo W1578 (fo W1574 (fo W1571 (fo W1568 F_c1_drawnMatches)))))) (Or.inr (slot_ne (Or.inl (w143 hw)) (Or.inl (w136 hw)) (by decide) (t := .int) (t' := .int) (by decide) (by decide))))
  refine gF X1588 hx hZ hO (w142 hw) Via.refl e1588 F_c1_drawnMatches (hb Y d19_77) fun T1589 X1589 e1589 => ?_
  refine aN X1589 hx (hb Y d19_80) rfl rfl ?_
  replace F_c5_drawnMatches := (fo W1588 (fo W1584 (fo W1581 (fo W1578 (fo W1574 (fo W1571 (fo W1568 F_c5_drawnMatches)))))))
  refine gF X1589 hx hZ hO (w142 hw) Via.refl e1589 F_c5_drawnMatches (hb Y d19_81) fun T1590 X1590 e1590 => ?_
  refine iA X1590 hx (z := ((bumpD (0 : Int32) v0_ v1_) + (bumpD (bumpD (0 : Int32) v2_ v3_) v2_ v3_))) (hb Y d19_84) (q := rfl) ?_
  replace E_c1 := (xw W1588 E_c1)
  refine f_putF X1590 hx hZ hO (w142 hw) Via.refl e1590 F_c1_drawnMatches E_c1 (Or.inl (w143 hw)) (w6 hw) (ty := .int) (by decide) rfl rfl (hb Y d19_85) fun T1591 h1591 X1591 e1591 W1591 => ?_
  have N1591x := Fr.snoc X1591 N1588x (by omega : n0 ≤ c1)
  exact f_ret0 X1591 hx hlk hret (hb Y d19_88) (QQ := (Qm1592 Z n0 s_WIN s_LOSS s_DRAW s_SW s_EM e0_ e1_ e2_ e3_ c1 c2 c3 c4 c5 c6 c7 c8 c9 c10 c11 c12 k901 k902 kc1 kc2 kc3 kc4 kc5 kc6 kc7 kc8 v0_ v1_ v2_ v3_)) (by rw [e1591]; exact ⟨rfl, N1591x, (Sta.wr W1591 (Sta.wr W1588 (Sta.wr W1584 (Sta.wr W1581 (Sta.wr W1578 (Sta.wr W1574 (Sta.wr W1571 (Sta.wr W1568 S_WIN)))))))), (Sta.wr W1591 (Sta.wr W1588 (Sta.wr W1584 (Sta.wr W1581 (Sta.wr W1578 (Sta.wr W1574 (Sta.wr W1571 (Sta.wr W1568 S_LOSS)))))))), (Sta.wr W1591 (Sta.wr W1588 (Sta.wr W1584 (Sta.wr W1581 (Sta.wr W1578 (Sta.wr W1574 (Sta.wr W1571 (Sta.wr W1568 S_DRAW)))))))), (Sta.wr W1591 (Sta.wr W1588 (Sta.wr W1584 (Sta.wr W1581 (Sta.wr W1578 (Sta.wr W1574 (Sta.wr W1571 (Sta.wr W1568 S__SwitchMap_com_example_g)))))))), (Sta.wr W1591 (Sta.wr W1588 (Sta.wr W1584 (Sta.wr W1581 (Sta.wr W1578 (Sta.wr W1574 (Sta.wr W1571 (Sta.wr W1568 S_DEFAULTCAPACITY_EMPTY_EL)))))))), (xw W1591 (xw W1588 (xw W1584 (xw W1581 (xw W1578 (xw W1574 (xw W1571 (xw W1568 E_s_WIN)))))))), (fo W1591 (fo W1588 (fo W1584 (fo W1581 (fo W1578 (fo W1574 (fo W1571 (fo W1568 F_s_WIN_ordinal)))))))), (xw W1591 (xw W1588 (xw W1584 (xw W1581 (xw W1578 (xw W1574 (xw W1571 (xw W1568 E_s_LOSS)))))))), (fo W1591 (fo W1588 (fo W1584 (fo W1581 (fo W1578 (fo W1574 (fo W1571 (fo W1568 F_s_LOSS_ordinal)))))))), (xw W1591 (xw W1588 (xw W1584 (xw W1581 (xw W1578 (xw W1574 (xw W1571 (xw W1568 E_s_DRAW)))))))), (fo W1591 (fo W1588 (fo W1584 (fo W1581 (fo W1578 (fo W1574 (fo W1571 (fo W1568 F_s_DRAW_ordinal)))))))), (vo (vo (vo (vo (vo (vo (vo (vo V_s_SW W1568) W1571) W1574) W1578) W1581) W1584) W1588) W1591), (vo (vo (vo (vo (vo (vo (vo (vo V_s_EM W1568) W1571) W1574) W1578) W1581) W1584) W1588) W1591), (xw W1591 E_c1), (Fld.other W1591 (Fld.other W1588 F_c1_wins (Or.inr (slot_ne (Or.inr (w16 hw)) (Or.inl (w136 hw)) (by decide) (t := (.array .int)) (t' := .int) (by decide) (by decide)))) (Or.inr (slot_ne (Or.inr (w16 hw)) (Or.inl (w143 hw)) (by decide) (t := (.array .int)) (t' := .int) (by decide) (by decide)))), (Fld.other W1591 (Fld.other W1588 (fo W1584 (fo W1581 F_c1_draws)) (Or.inr (slot_ne (Or.inr (w18 hw)) (Or.inl (w136 hw)) (by decide) (t := (.array .int)) (t' := .int) (by decide) (by decide)))) (Or.inr (slot_ne (Or.inr (w18 hw)) (Or.inl (w143 hw)) (by decide) (t := (.array .int)) (t' := .int) (by decide) (by decide)))), (Fld.other W1591 (Fld.other W1588 (fo W1584 F_c1_losses) (Or.inr (slot_ne (Or.inr (w20 hw)) (Or.inl (w136 hw)) (by decide) (t := (.array .int)) (t' := .int) (by decide) (by decide)))) (Or.inr (slot_ne (Or.inr (w20 hw)) (Or.inl (w143 hw)) (by decide) (t := (.array .int)) (t' := .int) (by decide) (by decide)))), (Fld.other W1591 (Fld.same W1588 F_c1_matches) (Or.inr (slot_ne (Or.inl (w136 hw)) (Or.inl (w143 hw)) (by decide) (t := .int) (t' := .int) (by decide) (by decide)))), (Fld.same W1591 F_c1_drawnMatches), (vo (vo V_c2 W1588) W1591), (vo (vo (vo V1581 W1584) W1588) W1591), (vo (vo V1584 W1588) W1591), (xw W1591 (xw W1588 (xw W1584 (xw W1581 (xw W1578 (xw W1574 (xw W1571 (xw W1568 E_c5)))))))), (fo W1591 (fo W1588 (fo W1584 (fo W1581 (fo W1578 F_c5_wins))))), (fo W1591 (fo W1588 (fo W1584 (fo W1581 F_c5_draws)))), (fo W1591 (fo W1588 (fo W1584 F_c5_losses))), (fo W1591 (fo W1588 F_c5_matches)), (fo W1591 F_c5_drawnMatches), (vo (vo (vo (vo (vo V_c6 W1578) W1581) W1584) W1588) W1591), (vo (vo (vo (vo V_c7 W1581) W1584) W1588) W1591), (vo (vo (vo V_c8 W1584) W1588) W1591), (xw W1591 (xw W1588 (xw W1584 (xw W1581 (xw W1578 (xw W1574 (xw W1571 (xw W1568 E_c9)))))))), (fo W1591 (fo W1588 (fo W1584 (fo W1581 (fo W1578 (fo W1574 (fo W1571 (fo W1568 F_c9_modCount)))))))), (fo W1591 (fo W1588 (fo W1584 (fo W1581 (fo W1578 (fo W1574 (fo W1571 (fo W1568 F_c9_elementData)))))))), (fo W1591 (fo W1588 (fo W1584 (fo W1581 (fo W1578 (fo W1574 (fo W1571 (fo W1568 F_c9_s)))))))), (xw W1591 (xw W1588 (xw W1584 (xw W1581 (xw W1578 (xw W1574 (xw W1571 (xw W1568 E_e0_)))))))), (xw W1591 (xw W1588 (xw W1584 (xw W1581 (xw W1578 (xw W1574 (xw W1571 (xw W1568 E_c10)))))))), (vo (vo (vo (vo (vo (vo (vo (vo V_c10 W1568) W1571) W1574) W1578) W1581) W1584) W1588) W1591), O_c10, (xw W1591 (xw W1588 (xw W1584 (xw W1581 (xw W1578 (xw W1574 (xw W1571 (xw W1568 E_e1_)))))))), (xw W1591 (xw W1588 (xw W1584 (xw W1581 (xw W1578 (xw W1574 (xw W1571 (xw W1568 E_c11)))))))), (fo W1591 (fo W1588 (fo W1584 (fo W1581 (fo W1578 (fo W1574 (fo W1571 (fo W1568 F_c11_modCount)))))))), (fo W1591 (fo W1588 (fo W1584 (fo W1581 (fo W1578 (fo W1574 (fo W1571 (fo W1568 F_c11_elementData)))))))), (fo W1591 (fo W1588 (fo W1584 (fo W1581 (fo W1578 (fo W1574 (fo W1571 (fo W1568 F_c11_s)))))))), (xw W1591 (xw W1588 (xw W1584 (xw W1581 (xw W1578 (xw W1574 (xw W1571 (xw W1568 E_e2_)))))))), (xw W1591 (xw W1588 (xw W1584 (xw W1581 (xw W1578 (xw W1574 (xw W1571 (xw W1568 E_c12)))))))), (vo (vo (vo (vo (vo (vo (vo (vo V_c12 W1568) W1571) W1574) W1578) W1581) W1584) W1588) W1591), O_c12, (xw W1591 (xw W1588 (xw W1584 (xw W1581 (xw W1578 (xw W1574 (xw W1571 (xw W1568 E_e3_)))))))), g_c1, lt_c1_c2, lt_c2_c3, lt_c3_c4, lt_c4_c5, lt_c5_c6, lt_c6_c7, lt_c7_c8, lt_c8_c9, lt_c9_c10, lt_c10_c11, lt_c11_c12, od_s_WIN, od_s_LOSS, od_s_DRAW, od_s_SW, od_s_EM, od_e0_, od_e1_, od_e2_, od_e3_⟩) (by decide) (by decide)
theorem q1600 (l : Launch) (Z : State) (a0 : Array Value) (hw : HW a0 Z) (ws : List Jvm.Cond) (h0 : Heap) (n0 : Nat) (c1 : Nat) (F_c1_matches : Fld Z h0 c1 cT "matches" "I" (.int (((0 : Int32) + (1 : Int32)) + (((0 : Int32) + (1 : Int32)) + (1 : Int32))))) :
    MC l Z y21 prog_6_method_4_code 1 (some .int) ws rm_0_0_0_0 #[(.ref c1)] h0 (QV (.int (((0 : Int32) + (1 : Int32)) + (((0 : Int32) + (1 : Int32)) + (1 : Int32)))) h0 n0) := by
  refine own_met (plainFor_of_name pn21) fun p e s m below meth c s₁ X0 hx hZ Y hml hO hnm hlk hret e0 => f_cast (f' := mkF m 0 #[(rv c1)] []) (by first | (simp [entryFrame, mkF, argsToLocals, Value.category]; done) | rfl) ?_
  have N0 := Fr.nil n0
  refine aN X0 hx (hb Y d21_0) rfl rfl <| gF X0 hx hZ hO (w135 hw) Via.refl e0 F_c1_matches (hb Y d21_1) fun T1599 X1599 e1599 => ?_
  exact f_ret X1599 hx hlk (i := .ireturn) hret rfl (Or.inl ⟨rfl, Or.inl rfl, _, rfl⟩) (hb Y d21_4) (QQ := (QV (.int (((0 : Int32) + (1 : Int32)) + (((0 : Int32) + (1 : Int32)) + (1 : Int32)))) h0 n0)) ⟨rfl, N0, e1599⟩ (by decide) (by decide)
theorem q1603 (l : Launch) (Z : State) (a0 : Array Value) (hw : HW a0 Z) (ws : List Jvm.Cond) (h0 : Heap) (n0 : Nat) (c1 : Nat) (v0_ : Int32) (v1_ : Int32) (v2_ : Int32) (v3_ : Int32) (F_c1_drawnMatches : Fld Z h0 c1 cT "drawnMatches" "I" (.int ((bumpD (0 : Int32) v0_ v1_) + (bumpD (bumpD (0 : Int32) v2_ v3_) v2_ v3_)))) :
    MC l Z y22 prog_6_method_5_code 1 (some .int) ws rm_0_0_0_0 #[(.ref c1)] h0 (QV (.int ((bumpD (0 : Int32) v0_ v1_) + (bumpD (bumpD (0 : Int32) v2_ v3_) v2_ v3_))) h0 n0) := by
  refine own_met (plainFor_of_name pn22) fun p e s m below meth c s₁ X0 hx hZ Y hml hO hnm hlk hret e0 => f_cast (f' := mkF m 0 #[(rv c1)] []) (by first | (simp [entryFrame, mkF, argsToLocals, Value.category]; done) | rfl) ?_
  have N0 := Fr.nil n0
  refine aN X0 hx (hb Y d22_0) rfl rfl <| gF X0 hx hZ hO (w142 hw) Via.refl e0 F_c1_drawnMatches (hb Y d22_1) fun T1602 X1602 e1602 => ?_
  exact f_ret X1602 hx hlk (i := .ireturn) hret rfl (Or.inl ⟨rfl, Or.inl rfl, _, rfl⟩) (hb Y d22_4) (QQ := (QV (.int ((bumpD (0 : Int32) v0_ v1_) + (bumpD (bumpD (0 : Int32) v2_ v3_) v2_ v3_))) h0 n0)) ⟨rfl, N0, e1602⟩ (by decide) (by decide)
theorem q1606 (l : Launch) (Z : State) (a0 : Array Value) (hw : HW a0 Z) (ws : List Jvm.Cond) (h0 : Heap) (n0 : Nat) (c1 : Nat) (c2 : Nat) (kc3 : ClassId) (v0_ : Int32) (v2_ : Int32) (v1_ : Int32) (v3_ : Int32) (F_c1_wins : Fld Z h0 c1 cT "wins" "[I" (.ref c2)) (V_c2 : Arv Z h0 c2 kc3 .int 2 [(.int ((bump (0 : Int32) v0_ 0) + (bump (bump (0 : Int32) v2_ 0) v2_ 0))), (.int ((bump (0 : Int32) v1_ 0) + (bump (bump (0 : Int32) v3_ 0) v3_ 0)))] (.int 0)) :
    MC l Z y23 prog_6_method_6_code 2 (some .int) ws rm_0_0_0_0 #[(.ref c1), (.int 0)] h0 (QV (.int ((bump (0 : Int32) v0_ 0) + (bump (bump (0 : Int32) v2_ 0) v2_ 0))) h0 n0) := by
  refine own_met (plainFor_of_name pn23) fun p e s m below meth c s₁ X0 hx hZ Y hml hO hnm hlk hret e0 => f_cast (f' := mkF m 0 #[(rv c1), (iv 0)] []) (by first | (simp [entryFrame, mkF, argsToLocals, Value.category]; done) | rfl) ?_
  have N0 := Fr.nil n0
  refine aN X0 hx (hb Y d23_0) rfl rfl <| gF X0 hx hZ hO (w15 hw) Via.refl e0 F_c1_wins (hb Y d23_1) fun T1605 X1605 e1605 => ?_
  refine iN X1605 hx (hb Y d23_4) rfl <| f_iald X1605 hx hZ e1605 V_c2 (v := (.int ((bump (0 : Int32) v0_ 0) + (bump (bump (0 : Int32) v2_ 0) v2_ 0)))) rfl (hb Y d23_5) ?_
  exact f_ret X1605 hx hlk (i := .ireturn) hret rfl (Or.inl ⟨rfl, Or.inl rfl, _, rfl⟩) (hb Y d23_6) (QQ := (QV (.int ((bump (0 : Int32) v0_ 0) + (bump (bump (0 : Int32) v2_ 0) v2_ 0))) h0 n0)) ⟨rfl, N0, e1605⟩ (by decide) (by decide)
theorem q1611 (l : Launch) (Z : State) (a0 : Array Value) (hw : HW a0 Z) (ws : List Jvm.Cond) (h0 : Heap) (n0 : Nat) (c1 : Nat) (c2 : Nat) (kc3 : ClassId) (v0_ : Int32) (v2_ : Int32) (v1_ : Int32) (v3_ : Int32) (F_c1_losses : Fld Z h0 c1 cT "losses" "[I" (.ref c2)) (V_c2 : Arv Z h0 c2 kc3 .int 2 [(.int ((bump (0 : Int32) v0_ 1) + (bump (bump (0 : Int32) v2_ 1) v2_ 1))), (.int ((bump (0 : Int32) v1_ 1) + (bump (bump (0 : Int32) v3_ 1) v3_ 1)))] (.int 0)) :
    MC l Z y24 prog_6_method_8_code 2 (some .int) ws rm_0_0_0_0 #[(.ref c1), (.int 0)] h0 (QV (.int ((bump (0 : Int32) v0_ 1) + (bump (bump (0 : Int32) v2_ 1) v2_ 1))) h0 n0) := by
  refine own_met (plainFor_of_name pn24) fun p e s m below meth c s₁ X0 hx hZ Y hml hO hnm hlk hret e0 => f_cast (f' := mkF m 0 #[(rv c1), (iv 0)] []) (by first | (simp [entryFrame, mkF, argsToLocals, Value.category]; done) | rfl) ?_
  have N0 := Fr.nil n0
  refine aN X0 hx (hb Y d24_0) rfl rfl <| gF X0 hx hZ hO (w19 hw) Via.refl e0 F_c1_losses (hb Y d24_1) fun T1610 X1610 e1610 => ?_
  refine iN X1610 hx (hb Y d24_4) rfl <| f_iald X1610 hx hZ e1610 V_c2 (v := (.int ((bump (0 : Int32) v0_ 1) + (bump (bump (0 : Int32) v2_ 1) v2_ 1)))) rfl (hb Y d24_5) ?_
  exact f_ret X1610 hx hlk (i := .ireturn) hret rfl (Or.inl ⟨rfl, Or.inl rfl, _, rfl⟩) (hb Y d24_6) (QQ := (QV (.int ((bump (0 : Int32) v0_ 1) + (bump (bump (0 : Int32) v2_ 1) v2_ 1))) h0 n0)) ⟨rfl, N0, e1610⟩ (by decide) (by decide)
theorem q1616 (l : Launch) (Z : State) (a0 : Array Value) (hw : HW a0 Z) (ws : List Jvm.Cond) (h0 : Heap) (n0 : Nat) (c1 : Nat) (c2 : Nat) (kc3 : ClassId) (v0_ : Int32) (v2_ : Int32) (v1_ : Int32) (v3_ : Int32) (F_c1_draws : Fld Z h0 c1 cT "draws" "[I" (.ref c2)) (V_c2 : Arv Z h0 c2 kc3 .int 2 [(.int ((bump (0 : Int32) v0_ 2) + (bump (bump (0 : Int32) v2_ 2) v2_ 2))), (.int ((bump (0 : Int32) v1_ 2) + (bump (bump (0 : Int32) v3_ 2) v3_ 2)))] (.int 0)) :
    MC l Z y25 prog_6_method_7_code 2 (some .int) ws rm_0_0_0_0 #[(.ref c1), (.int 0)] h0 (QV (.int ((bump (0 : Int32) v0_ 2) + (bump (bump (0 : Int32) v2_ 2) v2_ 2))) h0 n0) := by
  refine own_met (plainFor_of_name pn25) fun p e s m below meth c s₁ X0 hx hZ Y hml hO hnm hlk hret e0 => f_cast (f' := mkF m 0 #[(rv c1), (iv 0)] []) (by first | (simp [entryFrame, mkF, argsToLocals, Value.category]; done) | rfl) ?_
  have N0 := Fr.nil n0
  refine aN X0 hx (hb Y d25_0) rfl rfl <| gF X0 hx hZ hO (w17 hw) Via.refl e0 F_c1_draws (hb Y d25_1) fun T1615 X1615 e1615 => ?_
  refine iN X1615 hx (hb Y d25_4) rfl <| f_iald X1615 hx hZ e1615 V_c2 (v := (.int ((bump (0 : Int32) v0_ 2) + (bump (bump (0 : Int32) v2_ 2) v2_ 2)))) rfl (hb Y d25_5) ?_
  exact f_ret X1615 hx hlk (i := .ireturn) hret rfl (Or.inl ⟨rfl, Or.inl rfl, _, rfl⟩) (hb Y d25_6) (QQ := (QV (.int ((bump (0 : Int32) v0_ 2) + (bump (bump (0 : Int32) v2_ 2) v2_ 2))) h0 n0)) ⟨rfl, N0, e1615⟩ (by decide) (by decide)
theorem q1621 (l : Launch) (Z : State) (a0 : Array Value) (hw : HW a0 Z) (ws : List Jvm.Cond) (h0 : Heap) (n0 : Nat) (c1 : Nat) (c2 : Nat) (kc3 : ClassId) (v0_ : Int32) (v2_ : Int32) (v1_ : Int32) (v3_ : Int32) (F_c1_wins : Fld Z h0 c1 cT "wins" "[I" (.ref c2)) (V_c2 : Arv Z h0 c2 kc3 .int 2 [(.int ((bump (0 : Int32) v0_ 0) + (bump (bump (0 : Int32) v2_ 0) v2_ 0))), (.int ((bump (0 : Int32) v1_ 0) + (bump (bump (0 : Int32) v3_ 0) v3_ 0)))] (.int 0)) :
    MC l Z y23 prog_6_method_6_code 2 (some .int) ws rm_0_0_0_0 #[(.ref c1), (.int 1)] h0 (QV (.int ((bump (0 : Int32) v1_ 0) + (bump (bump (0 : Int32) v3_ 0) v3_ 0))) h0 n0) := by
  refine own_met (plainFor_of_name pn23) fun p e s m below meth c s₁ X0 hx hZ Y hml hO hnm hlk hret e0 => f_cast (f' := mkF m 0 #[(rv c1), (iv 1)] []) (by first | (simp [entryFrame, mkF, argsToLocals, Value.category]; done) | rfl) ?_
  have N0 := Fr.nil n0
  refine aN X0 hx (hb Y d23_0) rfl rfl <| gF X0 hx hZ hO (w15 hw) Via.refl e0 F_c1_wins (hb Y d23_1) fun T1620 X1620 e1620 => ?_
  refine iN X1620 hx (hb Y d23_4) rfl <| f_iald X1620 hx hZ e1620 V_c2 (v := (.int ((bump (0 : Int32) v1_ 0) + (bump (bump (0 : Int32) v3_ 0) v3_ 0)))) rfl (hb Y d23_5) ?_
  exact f_ret X1620 hx hlk (i := .ireturn) hret rfl (Or.inl ⟨rfl, Or.inl rfl, _, rfl⟩) (hb Y d23_6) (QQ := (QV (.int ((bump (0 : Int32) v1_ 0) + (bump (bump (0 : Int32) v3_ 0) v3_ 0))) h0 n0)) ⟨rfl, N0, e1620⟩ (by decide) (by decide)
theorem q1626 (l : Launch) (Z : State) (a0 : Array Value) (hw : HW a0 Z) (ws : List Jvm.Cond) (h0 : Heap) (n0 : Nat) (c1 : Nat) (c2 : Nat) (kc3 : ClassId) (v0_ : Int32) (v2_ : Int32) (v1_ : Int32) (v3_ : Int32) (F_c1_losses : Fld Z h0 c1 cT "losses" "[I" (.ref c2)) (V_c2 : Arv Z h0 c2 kc3 .int 2 [(.int ((bump (0 : Int32) v0_ 1) + (bump (bump (0 : Int32) v2_ 1) v2_ 1))), (.int ((bump (0 : Int32) v1_ 1) + (bump (bump (0 : Int32) v3_ 1) v3_ 1)))] (.int 0)) :
    MC l Z y24 prog_6_method_8_code 2 (some .int) ws rm_0_0_0_0 #[(.ref c1), (.int 1)] h0 (QV (.int ((bump (0 : Int32) v1_ 1) + (bump (bump (0 : Int32) v3_ 1) v3_ 1))) h0 n0) := by
  refine own_met (plainFor_of_name pn24) fun p e s m below meth c s₁ X0 hx hZ Y hml hO hnm hlk hret e0 => f_cast (f' := mkF m 0 #[(rv c1), (iv 1)] []) (by first | (simp [entryFrame, mkF, argsToLocals, Value.category]; done) | rfl) ?_
  have N0 := Fr.nil n0
  refine aN X0 hx (hb Y d24_0) rfl rfl <| gF X0 hx hZ hO (w19 hw) Via.refl e0 F_c1_losses (hb Y d24_1) fun T1625 X1625 e1625 => ?_
  refine iN X1625 hx (hb Y d24_4) rfl <| f_iald X1625 hx hZ e1625 V_c2 (v := (.int ((bump (0 : Int32) v1_ 1) + (bump (bump (0 : Int32) v3_ 1) v3_ 1)))) rfl (hb Y d24_5) ?_
  exact f_ret X1625 hx hlk (i := .ireturn) hret rfl (Or.inl ⟨rfl, Or.inl rfl, _, rfl⟩) (hb Y d24_6) (QQ := (QV (.int ((bump (0 : Int32) v1_ 1) + (bump (bump (0 : Int32) v3_ 1) v3_ 1))) h0 n0)) ⟨rfl, N0, e1625⟩ (by decide) (by decide)
theorem q1631 (l : Launch) (Z : State) (a0 : Array Value) (hw : HW a0 Z) (ws : List Jvm.Cond) (h0 : Heap) (n0 : Nat) (c1 : Nat) (c2 : Nat) (kc3 : ClassId) (v0_ : Int32) (v2_ : Int32) (v1_ : Int32) (v3_ : Int32) (F_c1_draws : Fld Z h0 c1 cT "draws" "[I" (.ref c2)) (V_c2 : Arv Z h0 c2 kc3 .int 2 [(.int ((bump (0 : Int32) v0_ 2) + (bump (bump (0 : Int32) v2_ 2) v2_ 2))), (.int ((bump (0 : Int32) v1_ 2) + (bump (bump (0 : Int32) v3_ 2) v3_ 2)))] (.int 0)) :
    MC l Z y25 prog_6_method_7_code 2 (some .int) ws rm_0_0_0_0 #[(.ref c1), (.int 1)] h0 (QV (.int ((bump (0 : Int32) v1_ 2) + (bump (bump (0 : Int32) v3_ 2) v3_ 2))) h0 n0) := by
  refine own_met (plainFor_of_name pn25) fun p e s m below meth c s₁ X0 hx hZ Y hml hO hnm hlk hret e0 => f_cast (f' := mkF m 0 #[(rv c1), (iv 1)] []) (by first | (simp [entryFrame, mkF, argsToLocals, Value.category]; done) | rfl) ?_
  have N0 := Fr.nil n0
  refine aN X0 hx (hb Y d25_0) rfl rfl <| gF X0 hx hZ hO (w17 hw) Via.refl e0 F_c1_draws (hb Y d25_1) fun T1630 X1630 e1630 => ?_
  refine iN X1630 hx (hb Y d25_4) rfl <| f_iald X1630 hx hZ e1630 V_c2 (v := (.int ((bump (0 : Int32) v1_ 2) + (bump (bump (0 : Int32) v3_ 2) v3_ 2)))) rfl (hb Y d25_5) ?_
  exact f_ret X1630 hx hlk (i := .ireturn) hret rfl (Or.inl ⟨rfl, Or.inl rfl, _, rfl⟩) (hb Y d25_6) (QQ := (QV (.int ((bump (0 : Int32) v1_ 2) + (bump (bump (0 : Int32) v3_ 2) v3_ 2))) h0 n0)) ⟨rfl, N0, e1630⟩ (by decide) (by decide)
theorem law_1 (l : Launch) (Z : State) (a0 : Array Value) (hw : HW a0 Z) (ws : List Jvm.Cond) (h0 : Heap) (n0 : Nat) (Z0 : n0 ≤ h0.size) (s_WIN : Nat) (s_LOSS : Nat) (s_DRAW : Nat) (s_SW : Nat) (s_EM : Nat) (k901 : ClassId) (k902 : ClassId) (p0 : Int32) (v0_ : Int32) (p1 : Int32) (v1_ : Int32) (p2 : Int32) (v2_ : Int32) (p3 : Int32) (v3_ : Int32) (p4 : Int32) (h4 : (p4 &&& (1 : Int32)) = (1 : Int32)) (P : St0 Z h0 n0 s_WIN s_LOSS s_DRAW s_SW s_EM k901 k902 p0 v0_ p1 v1_ p2 v2_ p3 v3_) :
    MC l Z x code maxLocals ret ws room_1 #[(.int p0), (.int p1), (.int p2), (.int p3), (.int p4)] h0 (QL n0) := by
  obtain ⟨S_WIN, S_LOSS, S_DRAW, S__SwitchMap_com_example_g, S_DEFAULTCAPACITY_EMPTY_EL, E_s_WIN, F_s_WIN_ordinal, E_s_LOSS, F_s_LOSS_ordinal, E_s_DRAW, F_s_DRAW_ordinal, V_s_SW, V_s_EM, od_s_WIN, od_s_LOSS, od_s_DRAW, od_s_SW, od_s_EM, hM0, hv0, hM1, hv1, hM2, hv2, hM3, hv3⟩ := id P
  refine own_met (plainFor_of_name pn26) fun p e s m below meth c s₁ X0 hx hZ Y hml hO hnm hlk hret e0 => f_cast (f' := mkF m 0 #[(iv p0), (iv p1), (iv p2), (iv p3), (iv p4), .unset, .unset, .unset, .unset, .unset, .unset, .unset, .unset, .unset, .unset, .unset, .unset] []) (by first | (simp [entryFrame, mkF, argsToLocals, Value.category, maxLocals]; done) | rfl) ?_
  have N0 := Fr.nil n0
  refine iN X0 hx (hb Y at_0) rfl <| f_stat X0 hx hZ hO (by rw [hml]; rfl) (w0 hw) (w1 hw) (w2 hw) (w3 hw) e0 (argsL := [(.int p0)]) (rest := []) (q5 l Z a0 hw [] h0 n0 p0 v0_ hM0) (lenOf pd0 rfl) (hb Y at_1) fun T1393 L1393 v1393 X1393 hQ1393 => ?_
  obtain ⟨rfl, N1393q, e1393⟩ := hQ1393
  have N1393 := Fr.app N0 N1393q
  refine iS X1393 hx (L' := #[(iv p0), (iv p1), (iv p2), (iv p3), (iv p4), (iv v0_), .unset, .unset, .unset, .unset, .unset, .unset, .unset, .unset, .unset, .unset, .unset]) (hb Y at_4) rfl <| iN X1393 hx (hb Y at_6) rfl <| f_stat X1393 hx hZ hO (by rw [hml]; rfl) (w0 hw) (w1 hw) (w2 hw) (w3 hw) e1393 (argsL := [(.int p1)]) (rest := []) (q7 l Z a0 hw [] h0 n0 p1 v1_ hM1) (lenOf pd0 rfl) (hb Y at_7) fun T1394 L1394 v1394 X1394 hQ1394 => ?_
  obtain ⟨rfl, N1394q, e1394⟩ := hQ1394
  have N1394 := Fr.app N1393 N1394q
  refine iS X1394 hx (L' := #[(iv p0), (iv p1), (iv p2), (iv p3), (iv p4), (iv v0_), (iv v1_), .unset, .unset, .unset, .unset, .unset, .unset, .unset, .unset, .unset, .unset]) (hb Y at_10) rfl <| iN X1394 hx (hb Y at_12) rfl <| f_stat X1394 hx hZ hO (by rw [hml]; rfl) (w0 hw) (w1 hw) (w2 hw) (w3 hw) e1394 (argsL := [(.int p2)]) (rest := []) (q9 l Z a0 hw [] h0 n0 p2 v2_ hM2) (lenOf pd0 rfl) (hb Y at_13) fun T1395 L1395 v1395 X1395 hQ1395 => ?_
  obtain ⟨rfl, N1395q, e1395⟩ := hQ1395
  have N1395 := Fr.app N1394 N1395q
  refine iS X1395 hx (L' := #[(iv p0), (iv p1), (iv p2), (iv p3), (iv p4), (iv v0_), (iv v1_), (iv v2_), .unset, .unset, .unset, .unset, .unset, .unset, .unset, .unset, .unset]) (hb Y at_16) rfl <| iN X1395 hx (hb Y at_18) rfl <| f_stat X1395 hx hZ hO (by rw [hml]; rfl) (w0 hw) (w1 hw) (w2 hw) (w3 hw) e1395 (argsL := [(.int p3)]) (rest := []) (q11 l Z a0 hw [] h0 n0 p3 v3_ hM3) (lenOf pd0 rfl) (hb Y at_19) fun T1396 L1396 v1396 X1396 hQ1396 => ?_
  obtain ⟨rfl, N1396q, e1396⟩ := hQ1396
  have N1396 := Fr.app N1395 N1396q
  refine iS X1396 hx (L' := #[(iv p0), (iv p1), (iv p2), (iv p3), (iv p4), (iv v0_), (iv v1_), (iv v2_), (iv v3_), .unset, .unset, .unset, .unset, .unset, .unset, .unset, .unset]) (hb Y at_22) rfl <| iL X1396 hx (hb Y at_24) rfl <| iK X1396 hx (z := 1) (hb Y at_26) <| f_iand X1396 hx (z := 1) (hb Y at_27) (q := h4) <| fN X1396 hx (hb Y at_28) <| iK X1396 hx (z := 1) (hb Y at_31) <| gT X1396 hx (pc := 32) 36 (hb Y at_32) <| iS X1396 hx (L' := #[(iv p0), (iv p1), (iv p2), (iv p3), (iv p4), (iv v0_), (iv v1_), (iv v2_), (iv v3_), (iv 1), .unset, .unset, .unset, .unset, .unset, .unset, .unset]) (hb Y at_36) rfl <| iL X1396 hx (hb Y at_38) rfl <| fN X1396 hx (hb Y at_40) <| iK X1396 hx (z := 2) (hb Y at_43) <| gT X1396 hx (pc := 44) 48 (hb Y at_44) <| iS X1396 hx (L' := #[(iv p0), (iv p1), (iv p2), (iv p3), (iv p4), (iv v0_), (iv v1_), (iv v2_), (iv v3_), (iv 1), (iv 2), .unset, .unset, .unset, .unset, .unset, .unset]) (hb Y at_48) rfl <| f_newO X1396 hx hZ hO (w5 hw) (w6 hw) (w7 hw) e1396 (hb Y at_50) fun T1397 h1397 b1397 g1397 X1397 e1397 E1397 A1397 D1397 => ?_
  have g_b1397 : n0 ≤ b1397 := by omega
  have F_b1397_wins : Fld Z h1397 b1397 cT "wins" "[I" .null := D1397 (Or.inr (w16 hw)) (ty := (.array .int)) (by decide)
  have F_b1397_draws : Fld Z h1397 b1397 cT "draws" "[I" .null := D1397 (Or.inr (w18 hw)) (ty := (.array .int)) (by decide)
  have F_b1397_losses : Fld Z h1397 b1397 cT "losses" "[I" .null := D1397 (Or.inr (w20 hw)) (ty := (.array .int)) (by decide)
  have F_b1397_matches : Fld Z h1397 b1397 cT "matches" "I" (.int 0) := D1397 (Or.inl (w136 hw)) (ty := .int) (by decide)
  have F_b1397_drawnMatches : Fld Z h1397 b1397 cT "drawnMatches" "I" (.int 0) := D1397 (Or.inl (w143 hw)) (ty := .int) (by decide)
  have E_b1397 := A1397
  refine f_dup X1397 hx (hb Y at_53) rfl <| iK X1397 hx (z := 2) (hb Y at_54) ?_
  have P1412 : St1 Z h1397 n0 s_WIN s_LOSS s_DRAW s_SW s_EM b1397 k901 k902 := ⟨(Sta.ext E1397 S_WIN), (Sta.ext E1397 S_LOSS), (Sta.ext E1397 S_DRAW), (Sta.ext E1397 S__SwitchMap_com_example_g), (Sta.ext E1397 S_DEFAULTCAPACITY_EMPTY_EL), (xe E1397 E_s_WIN), (fe E1397 F_s_WIN_ordinal), (xe E1397 E_s_LOSS), (fe E1397 F_s_LOSS_ordinal), (xe E1397 E_s_DRAW), (fe E1397 F_s_DRAW_ordinal), (ve V_s_SW E1397), (ve V_s_EM E1397), E_b1397, F_b1397_wins, F_b1397_draws, F_b1397_losses, F_b1397_matches, F_b1397_drawnMatches, g_b1397, od_s_WIN, od_s_LOSS, od_s_DRAW, od_s_SW, od_s_EM⟩
  refine f_spec X1397 hx hZ hO (by rw [hml]; rfl) rfl (w8 hw) (w9 hw) (w7 hw) (w10 hw) e1397 (a := b1397) (argsL := [(.int 2)]) (rest := [(.ref b1397)]) (m28 l Z a0 hw [] h1397 n0 s_WIN s_LOSS s_DRAW s_SW s_EM b1397 k901 k902 P1412) (lenOf pd1 rfl) (hb Y at_55) fun T1398 L1398 v1398 X1398 hQ1398 => ?_
  obtain ⟨kb1406, b1407, kb1408, b1409, kb1410, b1411, rfl, N1398q, P1398⟩ := hQ1398
  obtain ⟨S_WIN, S_LOSS, S_DRAW, S__SwitchMap_com_example_g, S_DEFAULTCAPACITY_EMPTY_EL, E_s_WIN, F_s_WIN_ordinal, E_s_LOSS, F_s_LOSS_ordinal, E_s_DRAW, F_s_DRAW_ordinal, V_s_SW, V_s_EM, E_b1397, F_b1397_wins, F_b1397_draws, F_b1397_losses, F_b1397_matches, F_b1397_drawnMatches, V_b1407, V_b1409, V_b1411, g_b1397, lt_b1397_b1407, lt_b1407_b1409, lt_b1409_b1411, od_s_WIN, od_s_LOSS, od_s_DRAW, od_s_SW, od_s_EM⟩ := id P1398
  have N1398 := Fr.app N1396 N1398q
  refine f_astore X1398 hx (L' := #[(iv p0), (iv p1), (iv p2), (iv p3), (iv p4), (iv v0_), (iv v1_), (iv v2_), (iv v3_), (iv 1), (iv 2), (rv b1397), .unset, .unset, .unset, .unset, .unset]) (hb Y at_58) rfl rfl <| f_newO X1398 hx hZ hO (w5 hw) (w6 hw) (w7 hw) rfl (hb Y at_60) fun T1413 h1413 b1413 g1413 X1413 e1413 E1413 A1413 D1413 => ?_
  have lt_b1411_b1413 : b1411 < b1413 := by have := own_ltV V_b1411; omega
  have F_b1413_wins : Fld Z h1413 b1413 cT "wins" "[I" .null := D1413 (Or.inr (w16 hw)) (ty := (.array .int)) (by decide)
  have F_b1413_draws : Fld Z h1413 b1413 cT "draws" "[I" .null := D1413 (Or.inr (w18 hw)) (ty := (.array .int)) (by decide)
  have F_b1413_losses : Fld Z h1413 b1413 cT "losses" "[I" .null := D1413 (Or.inr (w20 hw)) (ty := (.array .int)) (by decide)
  have F_b1413_matches : Fld Z h1413 b1413 cT "matches" "I" (.int 0) := D1413 (Or.inl (w136 hw)) (ty := .int) (by decide)
  have F_b1413_drawnMatches : Fld Z h1413 b1413 cT "drawnMatches" "I" (.int 0) := D1413 (Or.inl (w143 hw)) (ty := .int) (by decide)
  have E_b1413 := A1413
  refine f_dup X1413 hx (hb Y at_63) rfl <| iK X1413 hx (z := 2) (hb Y at_64) ?_
  have P1428 : St3 Z h1413 n0 s_WIN s_LOSS s_DRAW s_SW s_EM b1397 b1407 b1409 b1411 b1413 k901 k902 kb1406 kb1408 kb1410 := ⟨(Sta.ext E1413 S_WIN), (Sta.ext E1413 S_LOSS), (Sta.ext E1413 S_DRAW), (Sta.ext E1413 S__SwitchMap_com_example_g), (Sta.ext E1413 S_DEFAULTCAPACITY_EMPTY_EL), (xe E1413 E_s_WIN), (fe E1413 F_s_WIN_ordinal), (xe E1413 E_s_LOSS), (fe E1413 F_s_LOSS_ordinal), (xe E1413 E_s_DRAW), (fe E1413 F_s_DRAW_ordinal), (ve V_s_SW E1413), (ve V_s_EM E1413), (xe E1413 E_b1397), (fe E1413 F_b1397_wins), (fe E1413 F_b1397_draws), (fe E1413 F_b1397_losses), (fe E1413 F_b1397_matches), (fe E1413 F_b1397_drawnMatches), (ve V_b1407 E1413), (ve V_b1409 E1413), (ve V_b1411 E1413), E_b1413, F_b1413_wins, F_b1413_draws, F_b1413_losses, F_b1413_matches, F_b1413_drawnMatches, g_b1397, lt_b1397_b1407, lt_b1407_b1409, lt_b1409_b1411, lt_b1411_b1413, od_s_WIN, od_s_LOSS, od_s_DRAW, od_s_SW, od_s_EM⟩
  refine f_spec X1413 hx hZ hO (by rw [hml]; rfl) rfl (w8 hw) (w9 hw) (w7 hw) (w10 hw) e1413 (a := b1413) (argsL := [(.int 2)]) (rest := [(.ref b1413)]) (m52 l Z a0 hw [] h1413 n0 s_WIN s_LOSS s_DRAW s_SW s_EM b1397 b1407 b1409 b1411 b1413 k901 k902 kb1406 kb1408 kb1410 P1428) (lenOf pd1 rfl) (hb Y at_65) fun T1414 L1414 v1414 X1414 hQ1414 => ?_
  obtain ⟨kb1422, b1423, kb1424, b1425, kb1426, b1427, rfl, N1414q, P1414⟩ := hQ1414
  obtain ⟨S_WIN, S_LOSS, S_DRAW, S__SwitchMap_com_example_g, S_DEFAULTCAPACITY_EMPTY_EL, E_s_WIN, F_s_WIN_ordinal, E_s_LOSS, F_s_LOSS_ordinal, E_s_DRAW, F_s_DRAW_ordinal, V_s_SW, V_s_EM, E_b1397, F_b1397_wins, F_b1397_draws, F_b1397_losses, F_b1397_matches, F_b1397_drawnMatches, V_b1407, V_b1409, V_b1411, E_b1413, F_b1413_wins, F_b1413_draws, F_b1413_losses, F_b1413_matches, F_b1413_drawnMatches, V_b1423, V_b1425, V_b1427, g_b1397, lt_b1397_b1407, lt_b1407_b1409, lt_b1409_b1411, lt_b1411_b1413, lt_b1413_b1423, lt_b1423_b1425, lt_b1425_b1427, od_s_WIN, od_s_LOSS, od_s_DRAW, od_s_SW, od_s_EM⟩ := id P1414
  have N1414 := Fr.app N1398 N1414q
  refine f_astore X1414 hx (L' := #[(iv p0), (iv p1), (iv p2), (iv p3), (iv p4), (iv v0_), (iv v1_), (iv v2_), (iv v3_), (iv 1), (iv 2), (rv b1397), (rv b1413), .unset, .unset, .unset, .unset]) (hb Y at_68) rfl rfl <| f_newO X1414 hx hZ hO (w21 hw) (w22 hw) (w23 hw) rfl (hb Y at_70) fun T1429 h1429 b1429 g1429 X1429 e1429 E1429 A1429 D1429 => ?_
  have lt_b1427_b1429 : b1427 < b1429 := by have := own_ltV V_b1427; omega
  have F_b1429_modCount : Fld Z h1429 b1429 "java/util/AbstractList" "modCount" "I" (.int 0) := D1429 (Or.inl (w41 hw)) (ty := .int) (by decide)
  have F_b1429_elementData : Fld Z h1429 b1429 cA "elementData" "[Ljava/lang/Object;" .null := D1429 (Or.inl (w44 hw)) (ty := (.array (.object "java/lang/Object"))) (by decide)
  have F_b1429_s : Fld Z h1429 b1429 cA "size" "I" (.int 0) := D1429 (Or.inl (w59 hw)) (ty := .int) (by decide)
  have E_b1429 := A1429
  refine f_dup X1429 hx (hb Y at_73) rfl ?_
  have P1438 : St5 Z h1429 n0 s_WIN s_LOSS s_DRAW s_SW s_EM b1397 b1407 b1409 b1411 b1413 b1423 b1425 b1427 b1429 k901 k902 kb1406 kb1408 kb1410 kb1422 kb1424 kb1426 := ⟨(Sta.ext E1429 S_WIN), (Sta.ext E1429 S_LOSS), (Sta.ext E1429 S_DRAW), (Sta.ext E1429 S__SwitchMap_com_example_g), (Sta.ext E1429 S_DEFAULTCAPACITY_EMPTY_EL), (xe E1429 E_s_WIN), (fe E1429 F_s_WIN_ordinal), (xe E1429 E_s_LOSS), (fe E1429 F_s_LOSS_ordinal), (xe E1429 E_s_DRAW), (fe E1429 F_s_DRAW_ordinal), (ve V_s_SW E1429), (ve V_s_EM E1429), (xe E1429 E_b1397), (fe E1429 F_b1397_wins), (fe E1429 F_b1397_draws), (fe E1429 F_b1397_losses), (fe E1429 F_b1397_matches), (fe E1429 F_b1397_drawnMatches), (ve V_b1407 E1429), (ve V_b1409 E1429), (ve V_b1411 E1429), (xe E1429 E_b1413), (fe E1429 F_b1413_wins), (fe E1429 F_b1413_draws), (fe E1429 F_b1413_losses), (fe E1429 F_b1413_matches), (fe E1429 F_b1413_drawnMatches), (ve V_b1423 E1429), (ve V_b1425 E1429), (ve V_b1427 E1429), E_b1429, F_b1429_modCount, F_b1429_elementData, F_b1429_s, g_b1397, lt_b1397_b1407, lt_b1407_b1409, lt_b1409_b1411, lt_b1411_b1413, lt_b1413_b1423, lt_b1423_b1425, lt_b1425_b1427, lt_b1427_b1429, od_s_WIN, od_s_LOSS, od_s_DRAW, od_s_SW, od_s_EM⟩
  refine f_spec X1429 hx hZ hO (by rw [hml]; rfl) rfl (w24 hw) (w25 hw) (w23 hw) (w26 hw) e1429 (a := b1429) (argsL := []) (rest := [(.ref b1429)]) (m88 l Z a0 hw [] h1429 n0 s_WIN s_LOSS s_DRAW s_SW s_EM b1397 b1407 b1409 b1411 b1413 b1423 b1425 b1427 b1429 k901 k902 kb1406 kb1408 kb1410 kb1422 kb1424 kb1426 P1438) (lenOf pd2 rfl) (hb Y at_74) fun T1430 L1430 v1430 X1430 hQ1430 => ?_
  obtain ⟨rfl, N1430q, P1430⟩ := hQ1430
  obtain ⟨S_WIN, S_LOSS, S_DRAW, S__SwitchMap_com_example_g, S_DEFAULTCAPACITY_EMPTY_EL, E_s_WIN, F_s_WIN_ordinal, E_s_LOSS, F_s_LOSS_ordinal, E_s_DRAW, F_s_DRAW_ordinal, V_s_SW, V_s_EM, E_b1397, F_b1397_wins, F_b1397_draws, F_b1397_losses, F_b1397_matches, F_b1397_drawnMatches, V_b1407, V_b1409, V_b1411, E_b1413, F_b1413_wins, F_b1413_draws, F_b1413_losses, F_b1413_matches, F_b1413_drawnMatches, V_b1423, V_b1425, V_b1427, E_b1429, F_b1429_modCount, F_b1429_elementData, F_b1429_s, g_b1397, lt_b1397_b1407, lt_b1407_b1409, lt_b1409_b1411, lt_b1411_b1413, lt_b1413_b1423, lt_b1423_b1425, lt_b1425_b1427, lt_b1427_b1429, od_s_WIN, od_s_LOSS, od_s_DRAW, od_s_SW, od_s_EM⟩ := id P1430
  have N1430 := Fr.app N1414 N1430q
  refine f_astore X1430 hx (L' := #[(iv p0), (iv p1), (iv p2), (iv p3), (iv p4), (iv v0_), (iv v1_), (iv v2_), (iv v3_), (iv 1), (iv 2), (rv b1397), (rv b1413), (rv b1429), .unset, .unset, .unset]) (hb Y at_77) rfl rfl <| aA X1430 hx (hb Y at_79) rfl rfl <| iL X1430 hx (hb Y at_81) rfl <| f_stat X1430 hx hZ hO (by rw [hml]; rfl) (w45 hw) (w46 hw) (w2 hw) (w47 hw) rfl (argsL := [(.int v0_)]) (rest := [(.ref b1429)]) (own_res l Z a0 hw [] T1430.heap n0 s_WIN s_LOSS s_DRAW v0_ hv0 S_WIN S_LOSS S_DRAW E_s_WIN E_s_LOSS E_s_DRAW od_s_WIN od_s_LOSS od_s_DRAW) (lenOf pd3 rfl) (hb Y at_83) fun T1439 L1439 v1439 X1439 hQ1439 => ?_
  obtain ⟨e0_, rfl, he0, E_e0_, od_e0_, N1439q, e1439⟩ := hQ1439
  have N1439 := Fr.app N1430 N1439q
  have P1468 : St11 Z T1430.heap n0 s_WIN s_LOSS s_DRAW s_SW s_EM e0_ b1397 b1407 b1409 b1411 b1413 b1423 b1425 b1427 b1429 k901 k902 kb1406 kb1408 kb1410 kb1422 kb1424 kb1426 := ⟨S_WIN, S_LOSS, S_DRAW, S__SwitchMap_com_example_g, S_DEFAULTCAPACITY_EMPTY_EL, E_s_WIN, F_s_WIN_ordinal, E_s_LOSS, F_s_LOSS_ordinal, E_s_DRAW, F_s_DRAW_ordinal, V_s_SW, V_s_EM, E_b1397, F_b1397_wins, F_b1397_draws, F_b1397_losses, F_b1397_matches, F_b1397_drawnMatches, V_b1407, V_b1409, V_b1411, E_b1413, F_b1413_wins, F_b1413_draws, F_b1413_losses, F_b1413_matches, F_b1413_drawnMatches, V_b1423, V_b1425, V_b1427, E_b1429, F_b1429_modCount, F_b1429_elementData, F_b1429_s, E_e0_, g_b1397, lt_b1397_b1407, lt_b1407_b1409, lt_b1409_b1411, lt_b1411_b1413, lt_b1413_b1423, lt_b1423_b1425, lt_b1425_b1427, lt_b1427_b1429, od_s_WIN, od_s_LOSS, od_s_DRAW, od_s_SW, od_s_EM, od_e0_⟩
  refine vV X1439 hx hZ hO (by rw [hml]; rfl) (w51 hw) (w52 hw) (w54 hw) (w53 hw) (w23 hw) (w55 hw) e1439 E_b1429 (argsL := [(.ref e0_)]) (rest := []) (m298 l Z a0 hw [] T1430.heap n0 s_WIN s_LOSS s_DRAW s_SW s_EM e0_ b1397 b1407 b1409 b1411 b1413 b1423 b1425 b1427 b1429 k901 k902 kb1406 kb1408 kb1410 kb1422 kb1424 kb1426 P1468) (lenOf pd8 rfl) (hb Y at_86) fun T1440 L1440 v1440 X1440 hQ1440 => ?_
  obtain ⟨kb1466, b1467, rfl, N1440q, P1440⟩ := hQ1440
  obtain ⟨S_WIN, S_LOSS, S_DRAW, S__SwitchMap_com_example_g, S_DEFAULTCAPACITY_EMPTY_EL, E_s_WIN, F_s_WIN_ordinal, E_s_LOSS, F_s_LOSS_ordinal, E_s_DRAW, F_s_DRAW_ordinal, V_s_SW, V_s_EM, E_b1397, F_b1397_wins, F_b1397_draws, F_b1397_losses, F_b1397_matches, F_b1397_drawnMatches, V_b1407, V_b1409, V_b1411, E_b1413, F_b1413_wins, F_b1413_draws, F_b1413_losses, F_b1413_matches, F_b1413_drawnMatches, V_b1423, V_b1425, V_b1427, E_b1429, F_b1429_modCount, F_b1429_elementData, F_b1429_s, E_e0_, E_b1467, V_b1467, O_b1467, g_b1397, lt_b1397_b1407, lt_b1407_b1409, lt_b1409_b1411, lt_b1411_b1413, lt_b1413_b1423, lt_b1423_b1425, lt_b1425_b1427, lt_b1427_b1429, lt_b1429_b1467, od_s_WIN, od_s_LOSS, od_s_DRAW, od_s_SW, od_s_EM, od_e0_⟩ := id P1440
  have N1440 := Fr.app N1439 N1440q
  refine f_pop X1440 hx (hb Y at_89) rfl <| aA X1440 hx (hb Y at_90) rfl rfl <| iL X1440 hx (hb Y at_92) rfl <| f_stat X1440 hx hZ hO (by rw [hml]; rfl) (w45 hw) (w46 hw) (w2 hw) (w47 hw) rfl (argsL := [(.int v1_)]) (rest := [(.ref b1429)]) (own_res l Z a0 hw [] T1440.heap n0 s_WIN s_LOSS s_DRAW v1_ hv1 S_WIN S_LOSS S_DRAW E_s_WIN E_s_LOSS E_s_DRAW od_s_WIN od_s_LOSS od_s_DRAW) (lenOf pd3 rfl) (hb Y at_94) fun T1469 L1469 v1469 X1469 hQ1469 => ?_
  obtain ⟨e1_, rfl, he1, E_e1_, od_e1_, N1469q, e1469⟩ := hQ1469
  have N1469 := Fr.app N1440 N1469q
  have P1479 : St15 Z T1440.heap n0 s_WIN s_LOSS s_DRAW s_SW s_EM e0_ e1_ b1397 b1407 b1409 b1411 b1413 b1423 b1425 b1427 b1429 b1467 k901 k902 kb1406 kb1408 kb1410 kb1422 kb1424 kb1426 kb1466 := ⟨S_WIN, S_LOSS, S_DRAW, S__SwitchMap_com_example_g, S_DEFAULTCAPACITY_EMPTY_EL, E_s_WIN, F_s_WIN_ordinal, E_s_LOSS, F_s_LOSS_ordinal, E_s_DRAW, F_s_DRAW_ordinal, V_s_SW, V_s_EM, E_b1397, F_b1397_wins, F_b1397_draws, F_b1397_losses, F_b1397_matches, F_b1397_drawnMatches, V_b1407, V_b1409, V_b1411, E_b1413, F_b1413_wins, F_b1413_draws, F_b1413_losses, F_b1413_matches, F_b1413_drawnMatches, V_b1423, V_b1425, V_b1427, E_b1429, F_b1429_modCount, F_b1429_elementData, F_b1429_s, E_e0_, E_b1467, V_b1467, O_b1467, E_e1_, g_b1397, lt_b1397_b1407, lt_b1407_b1409, lt_b1409_b1411, lt_b1411_b1413, lt_b1413_b1423, lt_b1423_b1425, lt_b1425_b1427, lt_b1427_b1429, lt_b1429_b1467, od_s_WIN, od_s_LOSS, od_s_DRAW, od_s_SW, od_s_EM, od_e0_, od_e1_⟩
  refine vV X1469 hx hZ hO (by rw [hml]; rfl) (w51 hw) (w52 hw) (w54 hw) (w53 hw) (w23 hw) (w55 hw) e1469 E_b1429 (argsL := [(.ref e1_)]) (rest := []) (m326 l Z a0 hw [] T1440.heap n0 s_WIN s_LOSS s_DRAW s_SW s_EM e0_ e1_ b1397 b1407 b1409 b1411 b1413 b1423 b1425 b1427 b1429 b1467 k901 k902 kb1406 kb1408 kb1410 kb1422 kb1424 kb1426 kb1466 P1479) (lenOf pd8 rfl) (hb Y at_97) fun T1470 L1470 v1470 X1470 hQ1470 => ?_
  obtain ⟨rfl, N1470q, P1470⟩ := hQ1470
  obtain ⟨S_WIN, S_LOSS, S_DRAW, S__SwitchMap_com_example_g, S_DEFAULTCAPACITY_EMPTY_EL, E_s_WIN, F_s_WIN_ordinal, E_s_LOSS, F_s_LOSS_ordinal, E_s_DRAW, F_s_DRAW_ordinal, V_s_SW, V_s_EM, E_b1397, F_b1397_wins, F_b1397_draws, F_b1397_losses, F_b1397_matches, F_b1397_drawnMatches, V_b1407, V_b1409, V_b1411, E_b1413, F_b1413_wins, F_b1413_draws, F_b1413_losses, F_b1413_matches, F_b1413_drawnMatches, V_b1423, V_b1425, V_b1427, E_b1429, F_b1429_modCount, F_b1429_elementData, F_b1429_s, E_e0_, E_b1467, V_b1467, O_b1467, E_e1_, g_b1397, lt_b1397_b1407, lt_b1407_b1409, lt_b1409_b1411, lt_b1411_b1413, lt_b1413_b1423, lt_b1423_b1425, lt_b1425_b1427, lt_b1427_b1429, lt_b1429_b1467, od_s_WIN, od_s_LOSS, od_s_DRAW, od_s_SW, od_s_EM, od_e0_, od_e1_⟩ := id P1470
  have N1470 := Fr.app N1469 N1470q
  refine f_pop X1470 hx (hb Y at_100) rfl <| f_newO X1470 hx hZ hO (w21 hw) (w22 hw) (w23 hw) rfl (hb Y at_101) fun T1480 h1480 b1480 g1480 X1480 e1480 E1480 A1480 D1480 => ?_
  have lt_b1467_b1480 : b1467 < b1480 := by have := own_ltE E_b1467; omega
  have F_b1480_modCount : Fld Z h1480 b1480 "java/util/AbstractList" "modCount" "I" (.int 0) := D1480 (Or.inl (w41 hw)) (ty := .int) (by decide)
  have F_b1480_elementData : Fld Z h1480 b1480 cA "elementData" "[Ljava/lang/Object;" .null := D1480 (Or.inl (w44 hw)) (ty := (.array (.object "java/lang/Object"))) (by decide)
  have F_b1480_s : Fld Z h1480 b1480 cA "size" "I" (.int 0) := D1480 (Or.inl (w59 hw)) (ty := .int) (by decide)
  have E_b1480 := A1480
  refine f_dup X1480 hx (hb Y at_104) rfl ?_
  have P1489 : St16 Z h1480 n0 s_WIN s_LOSS s_DRAW s_SW s_EM e0_ e1_ b1397 b1407 b1409 b1411 b1413 b1423 b1425 b1427 b1429 b1467 b1480 k901 k902 kb1406 kb1408 kb1410 kb1422 kb1424 kb1426 kb1466 := ⟨(Sta.ext E1480 S_WIN), (Sta.ext E1480 S_LOSS), (Sta.ext E1480 S_DRAW), (Sta.ext E1480 S__SwitchMap_com_example_g), (Sta.ext E1480 S_DEFAULTCAPACITY_EMPTY_EL), (xe E1480 E_s_WIN), (fe E1480 F_s_WIN_ordinal), (xe E1480 E_s_LOSS), (fe E1480 F_s_LOSS_ordinal), (xe E1480 E_s_DRAW), (fe E1480 F_s_DRAW_ordinal), (ve V_s_SW E1480), (ve V_s_EM E1480), (xe E1480 E_b1397), (fe E1480 F_b1397_wins), (fe E1480 F_b1397_draws), (fe E1480 F_b1397_losses), (fe E1480 F_b1397_matches), (fe E1480 F_b1397_drawnMatches), (ve V_b1407 E1480), (ve V_b1409 E1480), (ve V_b1411 E1480), (xe E1480 E_b1413), (fe E1480 F_b1413_wins), (fe E1480 F_b1413_draws), (fe E1480 F_b1413_losses), (fe E1480 F_b1413_matches), (fe E1480 F_b1413_drawnMatches), (ve V_b1423 E1480), (ve V_b1425 E1480), (ve V_b1427 E1480), (xe E1480 E_b1429), (fe E1480 F_b1429_modCount), (fe E1480 F_b1429_elementData), (fe E1480 F_b1429_s), (xe E1480 E_e0_), (xe E1480 E_b1467), (ve V_b1467 E1480), O_b1467, (xe E1480 E_e1_), E_b1480, F_b1480_modCount, F_b1480_elementData, F_b1480_s, g_b1397, lt_b1397_b1407, lt_b1407_b1409, lt_b1409_b1411, lt_b1411_b1413, lt_b1413_b1423, lt_b1423_b1425, lt_b1425_b1427, lt_b1427_b1429, lt_b1429_b1467, lt_b1467_b1480, od_s_WIN, od_s_LOSS, od_s_DRAW, od_s_SW, od_s_EM, od_e0_, od_e1_⟩
  refine f_spec X1480 hx hZ hO (by rw [hml]; rfl) rfl (w24 hw) (w25 hw) (w23 hw) (w26 hw) e1480 (a := b1480) (argsL := []) (rest := [(.ref b1480)]) (m352 l Z a0 hw [] h1480 n0 s_WIN s_LOSS s_DRAW s_SW s_EM e0_ e1_ b1397 b1407 b1409 b1411 b1413 b1423 b1425 b1427 b1429 b1467 b1480 k901 k902 kb1406 kb1408 kb1410 kb1422 kb1424 kb1426 kb1466 P1489) (lenOf pd2 rfl) (hb Y at_105) fun T1481 L1481 v1481 X1481 hQ1481 => ?_
  obtain ⟨rfl, N1481q, P1481⟩ := hQ1481
  obtain ⟨S_WIN, S_LOSS, S_DRAW, S__SwitchMap_com_example_g, S_DEFAULTCAPACITY_EMPTY_EL, E_s_WIN, F_s_WIN_ordinal, E_s_LOSS, F_s_LOSS_ordinal, E_s_DRAW, F_s_DRAW_ordinal, V_s_SW, V_s_EM, E_b1397, F_b1397_wins, F_b1397_draws, F_b1397_losses, F_b1397_matches, F_b1397_drawnMatches, V_b1407, V_b1409, V_b1411, E_b1413, F_b1413_wins, F_b1413_draws, F_b1413_losses, F_b1413_matches, F_b1413_drawnMatches, V_b1423, V_b1425, V_b1427, E_b1429, F_b1429_modCount, F_b1429_elementData, F_b1429_s, E_e0_, E_b1467, V_b1467, O_b1467, E_e1_, E_b1480, F_b1480_modCount, F_b1480_elementData, F_b1480_s, g_b1397, lt_b1397_b1407, lt_b1407_b1409, lt_b1409_b1411, lt_b1411_b1413, lt_b1413_b1423, lt_b1423_b1425, lt_b1425_b1427, lt_b1427_b1429, lt_b1429_b1467, lt_b1467_b1480, od_s_WIN, od_s_LOSS, od_s_DRAW, od_s_SW, od_s_EM, od_e0_, od_e1_⟩ := id P1481
  have N1481 := Fr.app N1470 N1481q
  refine f_astore X1481 hx (L' := #[(iv p0), (iv p1), (iv p2), (iv p3), (iv p4), (iv v0_), (iv v1_), (iv v2_), (iv v3_), (iv 1), (iv 2), (rv b1397), (rv b1413), (rv b1429), (rv b1480), .unset, .unset]) (hb Y at_108) rfl rfl <| aA X1481 hx (hb Y at_110) rfl rfl <| iL X1481 hx (hb Y at_112) rfl <| f_stat X1481 hx hZ hO (by rw [hml]; rfl) (w45 hw) (w46 hw) (w2 hw) (w47 hw) rfl (argsL := [(.int v2_)]) (rest := [(.ref b1480)]) (own_res l Z a0 hw [] T1481.heap n0 s_WIN s_LOSS s_DRAW v2_ hv2 S_WIN S_LOSS S_DRAW E_s_WIN E_s_LOSS E_s_DRAW od_s_WIN od_s_LOSS od_s_DRAW) (lenOf pd3 rfl) (hb Y at_114) fun T1490 L1490 v1490 X1490 hQ1490 => ?_
  obtain ⟨e2_, rfl, he2, E_e2_, od_e2_, N1490q, e1490⟩ := hQ1490
  have N1490 := Fr.app N1481 N1490q
  have P1519 : St22 Z T1481.heap n0 s_WIN s_LOSS s_DRAW s_SW s_EM e0_ e1_ e2_ b1397 b1407 b1409 b1411 b1413 b1423 b1425 b1427 b1429 b1467 b1480 k901 k902 kb1406 kb1408 kb1410 kb1422 kb1424 kb1426 kb1466 := ⟨S_WIN, S_LOSS, S_DRAW, S__SwitchMap_com_example_g, S_DEFAULTCAPACITY_EMPTY_EL, E_s_WIN, F_s_WIN_ordinal, E_s_LOSS, F_s_LOSS_ordinal, E_s_DRAW, F_s_DRAW_ordinal, V_s_SW, V_s_EM, E_b1397, F_b1397_wins, F_b1397_draws, F_b1397_losses, F_b1397_matches, F_b1397_drawnMatches, V_b1407, V_b1409, V_b1411, E_b1413, F_b1413_wins, F_b1413_draws, F_b1413_losses, F_b1413_matches, F_b1413_drawnMatches, V_b1423, V_b1425, V_b1427, E_b1429, F_b1429_modCount, F_b1429_elementData, F_b1429_s, E_e0_, E_b1467, V_b1467, O_b1467, E_e1_, E_b1480, F_b1480_modCount, F_b1480_elementData, F_b1480_s, E_e2_, g_b1397, lt_b1397_b1407, lt_b1407_b1409, lt_b1409_b1411, lt_b1411_b1413, lt_b1413_b1423, lt_b1423_b1425, lt_b1425_b1427, lt_b1427_b1429, lt_b1429_b1467, lt_b1467_b1480, od_s_WIN, od_s_LOSS, od_s_DRAW, od_s_SW, od_s_EM, od_e0_, od_e1_, od_e2_⟩
  refine vV X1490 hx hZ hO (by rw [hml]; rfl) (w51 hw) (w52 hw) (w54 hw) (w53 hw) (w23 hw) (w55 hw) e1490 E_b1480 (argsL := [(.ref e2_)]) (rest := []) (m546 l Z a0 hw [] T1481.heap n0 s_WIN s_LOSS s_DRAW s_SW s_EM e0_ e1_ e2_ b1397 b1407 b1409 b1411 b1413 b1423 b1425 b1427 b1429 b1467 b1480 k901 k902 kb1406 kb1408 kb1410 kb1422 kb1424 kb1426 kb1466 P1519) (lenOf pd8 rfl) (hb Y at_117) fun T1491 L1491 v1491 X1491 hQ1491 => ?_
  obtain ⟨kb1517, b1518, rfl, N1491q, P1491⟩ := hQ1491
  obtain ⟨S_WIN, S_LOSS, S_DRAW, S__SwitchMap_com_example_g, S_DEFAULTCAPACITY_EMPTY_EL, E_s_WIN, F_s_WIN_ordinal, E_s_LOSS, F_s_LOSS_ordinal, E_s_DRAW, F_s_DRAW_ordinal, V_s_SW, V_s_EM, E_b1397, F_b1397_wins, F_b1397_draws, F_b1397_losses, F_b1397_matches, F_b1397_drawnMatches, V_b1407, V_b1409, V_b1411, E_b1413, F_b1413_wins, F_b1413_draws, F_b1413_losses, F_b1413_matches, F_b1413_drawnMatches, V_b1423, V_b1425, V_b1427, E_b1429, F_b1429_modCount, F_b1429_elementData, F_b1429_s, E_e0_, E_b1467, V_b1467, O_b1467, E_e1_, E_b1480, F_b1480_modCount, F_b1480_elementData, F_b1480_s, E_e2_, E_b1518, V_b1518, O_b1518, g_b1397, lt_b1397_b1407, lt_b1407_b1409, lt_b1409_b1411, lt_b1411_b1413, lt_b1413_b1423, lt_b1423_b1425, lt_b1425_b1427, lt_b1427_b1429, lt_b1429_b1467, lt_b1467_b1480, lt_b1480_b1518, od_s_WIN, od_s_LOSS, od_s_DRAW, od_s_SW, od_s_EM, od_e0_, od_e1_, od_e2_⟩ := id P1491
  have N1491 := Fr.app N1490 N1491q
  refine f_pop X1491 hx (hb Y at_120) rfl <| aA X1491 hx (hb Y at_121) rfl rfl <| iL X1491 hx (hb Y at_123) rfl <| f_stat X1491 hx hZ hO (by rw [hml]; rfl) (w45 hw) (w46 hw) (w2 hw) (w47 hw) rfl (argsL := [(.int v3_)]) (rest := [(.ref b1480)]) (own_res l Z a0 hw [] T1491.heap n0 s_WIN s_LOSS s_DRAW v3_ hv3 S_WIN S_LOSS S_DRAW E_s_WIN E_s_LOSS E_s_DRAW od_s_WIN od_s_LOSS od_s_DRAW) (lenOf pd3 rfl) (hb Y at_125) fun T1520 L1520 v1520 X1520 hQ1520 => ?_
  obtain ⟨e3_, rfl, he3, E_e3_, od_e3_, N1520q, e1520⟩ := hQ1520
  have N1520 := Fr.app N1491 N1520q
  have P1530 : St26 Z T1491.heap n0 s_WIN s_LOSS s_DRAW s_SW s_EM e0_ e1_ e2_ e3_ b1397 b1407 b1409 b1411 b1413 b1423 b1425 b1427 b1429 b1467 b1480 b1518 k901 k902 kb1406 kb1408 kb1410 kb1422 kb1424 kb1426 kb1466 kb1517 := ⟨S_WIN, S_LOSS, S_DRAW, S__SwitchMap_com_example_g, S_DEFAULTCAPACITY_EMPTY_EL, E_s_WIN, F_s_WIN_ordinal, E_s_LOSS, F_s_LOSS_ordinal, E_s_DRAW, F_s_DRAW_ordinal, V_s_SW, V_s_EM, E_b1397, F_b1397_wins, F_b1397_draws, F_b1397_losses, F_b1397_matches, F_b1397_drawnMatches, V_b1407, V_b1409, V_b1411, E_b1413, F_b1413_wins, F_b1413_draws, F_b1413_losses, F_b1413_matches, F_b1413_drawnMatches, V_b1423, V_b1425, V_b1427, E_b1429, F_b1429_modCount, F_b1429_elementData, F_b1429_s, E_e0_, E_b1467, V_b1467, O_b1467, E_e1_, E_b1480, F_b1480_modCount, F_b1480_elementData, F_b1480_s, E_e2_, E_b1518, V_b1518, O_b1518, E_e3_, g_b1397, lt_b1397_b1407, lt_b1407_b1409, lt_b1409_b1411, lt_b1411_b1413, lt_b1413_b1423, lt_b1423_b1425, lt_b1425_b1427, lt_b1427_b1429, lt_b1429_b1467, lt_b1467_b1480, lt_b1480_b1518, od_s_WIN, od_s_LOSS, od_s_DRAW, od_s_SW, od_s_EM, od_e0_, od_e1_, od_e2_, od_e3_⟩
  refine vV X1520 hx hZ hO (by rw [hml]; rfl) (w51 hw) (w52 hw) (w54 hw) (w53 hw) (w23 hw) (w55 hw) e1520 E_b1480 (argsL := [(.ref e3_)]) (rest := []) (m574 l Z a0 hw [] T1491.heap n0 s_WIN s_LOSS s_DRAW s_SW s_EM e0_ e1_ e2_ e3_ b1397 b1407 b1409 b1411 b1413 b1423 b1425 b1427 b1429 b1467 b1480 b1518 k901 k902 kb1406 kb1408 kb1410 kb1422 kb1424 kb1426 kb1466 kb1517 P1530) (lenOf pd8 rfl) (hb Y at_128) fun T1521 L1521 v1521 X1521 hQ1521 => ?_
  obtain ⟨rfl, N1521q, P1521⟩ := hQ1521
  obtain ⟨S_WIN, S_LOSS, S_DRAW, S__SwitchMap_com_example_g, S_DEFAULTCAPACITY_EMPTY_EL, E_s_WIN, F_s_WIN_ordinal, E_s_LOSS, F_s_LOSS_ordinal, E_s_DRAW, F_s_DRAW_ordinal, V_s_SW, V_s_EM, E_b1397, F_b1397_wins, F_b1397_draws, F_b1397_losses, F_b1397_matches, F_b1397_drawnMatches, V_b1407, V_b1409, V_b1411, E_b1413, F_b1413_wins, F_b1413_draws, F_b1413_losses, F_b1413_matches, F_b1413_drawnMatches, V_b1423, V_b1425, V_b1427, E_b1429, F_b1429_modCount, F_b1429_elementData, F_b1429_s, E_e0_, E_b1467, V_b1467, O_b1467, E_e1_, E_b1480, F_b1480_modCount, F_b1480_elementData, F_b1480_s, E_e2_, E_b1518, V_b1518, O_b1518, E_e3_, g_b1397, lt_b1397_b1407, lt_b1407_b1409, lt_b1409_b1411, lt_b1411_b1413, lt_b1413_b1423, lt_b1423_b1425, lt_b1425_b1427, lt_b1427_b1429, lt_b1429_b1467, lt_b1467_b1480, lt_b1480_b1518, od_s_WIN, od_s_LOSS, od_s_DRAW, od_s_SW, od_s_EM, od_e0_, od_e1_, od_e2_, od_e3_⟩ := id P1521
  have N1521 := Fr.app N1520 N1521q
  refine f_pop X1521 hx (hb Y at_131) rfl <| aA X1521 hx (hb Y at_132) rfl rfl <| aA X1521 hx (hb Y at_134) rfl rfl ?_
  have P1532 : St27 Z T1521.heap n0 s_WIN s_LOSS s_DRAW s_SW s_EM e0_ e1_ e2_ e3_ b1397 b1407 b1409 b1411 b1413 b1423 b1425 b1427 b1429 b1467 b1480 b1518 k901 k902 kb1406 kb1408 kb1410 kb1422 kb1424 kb1426 kb1466 kb1517 (0 : Int32) (0 : Int32) (0 : Int32) (0 : Int32) (0 : Int32) (0 : Int32) (0 : Int32) (0 : Int32) (0 : Int32) (0 : Int32) (0 : Int32) (0 : Int32) (0 : Int32) (0 : Int32) (0 : Int32) (0 : Int32) v0_ v1_ v2_ v3_ := ⟨S_WIN, S_LOSS, S_DRAW, S__SwitchMap_com_example_g, S_DEFAULTCAPACITY_EMPTY_EL, E_s_WIN, F_s_WIN_ordinal, E_s_LOSS, F_s_LOSS_ordinal, E_s_DRAW, F_s_DRAW_ordinal, V_s_SW, V_s_EM, E_b1397, F_b1397_wins, F_b1397_draws, F_b1397_losses, F_b1397_matches, F_b1397_drawnMatches, V_b1407, V_b1409, V_b1411, E_b1413, F_b1413_wins, F_b1413_draws, F_b1413_losses, F_b1413_matches, F_b1413_drawnMatches, V_b1423, V_b1425, V_b1427, E_b1429, F_b1429_modCount, F_b1429_elementData, F_b1429_s, E_e0_, E_b1467, V_b1467, O_b1467, E_e1_, E_b1480, F_b1480_modCount, F_b1480_elementData, F_b1480_s, E_e2_, E_b1518, V_b1518, O_b1518, E_e3_, g_b1397, lt_b1397_b1407, lt_b1407_b1409, lt_b1409_b1411, lt_b1411_b1413, lt_b1413_b1423, lt_b1423_b1425, lt_b1425_b1427, lt_b1427_b1429, lt_b1429_b1467, lt_b1467_b1480, lt_b1480_b1518, od_s_WIN, od_s_LOSS, od_s_DRAW, od_s_SW, od_s_EM, od_e0_, od_e1_, od_e2_, od_e3_, hv0, hv1, hv2, hv3, he0, he1, he2, he3⟩
  refine vV X1521 hx hZ hO (by rw [hml]; rfl) (w86 hw) (w87 hw) (w89 hw) (w88 hw) (w7 hw) (w90 hw) rfl E_b1397 (argsL := [(.ref b1429)]) (rest := []) (mr577 l Z a0 hw [] T1521.heap n0 s_WIN s_LOSS s_DRAW s_SW s_EM e0_ e1_ e2_ e3_ b1397 b1407 b1409 b1411 b1413 b1423 b1425 b1427 b1429 b1467 b1480 b1518 k901 k902 kb1406 kb1408 kb1410 kb1422 kb1424 kb1426 kb1466 kb1517 (0 : Int32) (0 : Int32) (0 : Int32) (0 : Int32) (0 : Int32) (0 : Int32) (0 : Int32) (0 : Int32) (0 : Int32) (0 : Int32) (0 : Int32) (0 : Int32) (0 : Int32) (0 : Int32) (0 : Int32) (0 : Int32) v0_ v1_ v2_ v3_ P1532) (lenOf pd12 rfl) (hb Y at_136) fun T1531 L1531 v1531 X1531 hQ1531 => ?_
  obtain ⟨rfl, N1531q, P1531⟩ := hQ1531
  obtain ⟨S_WIN, S_LOSS, S_DRAW, S__SwitchMap_com_example_g, S_DEFAULTCAPACITY_EMPTY_EL, E_s_WIN, F_s_WIN_ordinal, E_s_LOSS, F_s_LOSS_ordinal, E_s_DRAW, F_s_DRAW_ordinal, V_s_SW, V_s_EM, E_b1397, F_b1397_wins, F_b1397_draws, F_b1397_losses, F_b1397_matches, F_b1397_drawnMatches, V_b1407, V_b1409, V_b1411, E_b1413, F_b1413_wins, F_b1413_draws, F_b1413_losses, F_b1413_matches, F_b1413_drawnMatches, V_b1423, V_b1425, V_b1427, E_b1429, F_b1429_modCount, F_b1429_elementData, F_b1429_s, E_e0_, E_b1467, V_b1467, O_b1467, E_e1_, E_b1480, F_b1480_modCount, F_b1480_elementData, F_b1480_s, E_e2_, E_b1518, V_b1518, O_b1518, E_e3_, g_b1397, lt_b1397_b1407, lt_b1407_b1409, lt_b1409_b1411, lt_b1411_b1413, lt_b1413_b1423, lt_b1423_b1425, lt_b1425_b1427, lt_b1427_b1429, lt_b1429_b1467, lt_b1467_b1480, lt_b1480_b1518, od_s_WIN, od_s_LOSS, od_s_DRAW, od_s_SW, od_s_EM, od_e0_, od_e1_, od_e2_, od_e3_, hv0, hv1, hv2, hv3, he0, he1, he2, he3⟩ := id P1531
  have N1531 := Fr.app N1521 N1531q
  refine aA X1531 hx (hb Y at_139) rfl rfl <| aA X1531 hx (hb Y at_141) rfl rfl ?_
  have P1534 : St27 Z T1531.heap n0 s_WIN s_LOSS s_DRAW s_SW s_EM e0_ e1_ e2_ e3_ b1397 b1407 b1409 b1411 b1413 b1423 b1425 b1427 b1429 b1467 b1480 b1518 k901 k902 kb1406 kb1408 kb1410 kb1422 kb1424 kb1426 kb1466 kb1517 ((0 : Int32) + (1 : Int32)) (bumpD (0 : Int32) v0_ v1_) (bump (0 : Int32) v0_ 0) (bump (0 : Int32) v1_ 0) (bump (0 : Int32) v0_ 2) (bump (0 : Int32) v1_ 2) (bump (0 : Int32) v0_ 1) (bump (0 : Int32) v1_ 1) (0 : Int32) (0 : Int32) (0 : Int32) (0 : Int32) (0 : Int32) (0 : Int32) (0 : Int32) (0 : Int32) v0_ v1_ v2_ v3_ := ⟨S_WIN, S_LOSS, S_DRAW, S__SwitchMap_com_example_g, S_DEFAULTCAPACITY_EMPTY_EL, E_s_WIN, F_s_WIN_ordinal, E_s_LOSS, F_s_LOSS_ordinal, E_s_DRAW, F_s_DRAW_ordinal, V_s_SW, V_s_EM, E_b1397, F_b1397_wins, F_b1397_draws, F_b1397_losses, F_b1397_matches, F_b1397_drawnMatches, V_b1407, V_b1409, V_b1411, E_b1413, F_b1413_wins, F_b1413_draws, F_b1413_losses, F_b1413_matches, F_b1413_drawnMatches, V_b1423, V_b1425, V_b1427, E_b1429, F_b1429_modCount, F_b1429_elementData, F_b1429_s, E_e0_, E_b1467, V_b1467, O_b1467, E_e1_, E_b1480, F_b1480_modCount, F_b1480_elementData, F_b1480_s, E_e2_, E_b1518, V_b1518, O_b1518, E_e3_, g_b1397, lt_b1397_b1407, lt_b1407_b1409, lt_b1409_b1411, lt_b1411_b1413, lt_b1413_b1423, lt_b1423_b1425, lt_b1425_b1427, lt_b1427_b1429, lt_b1429_b1467, lt_b1467_b1480, lt_b1480_b1518, od_s_WIN, od_s_LOSS, od_s_DRAW, od_s_SW, od_s_EM, od_e0_, od_e1_, od_e2_, od_e3_, hv0, hv1, hv2, hv3, he0, he1, he2, he3⟩
  refine vV X1531 hx hZ hO (by rw [hml]; rfl) (w86 hw) (w87 hw) (w89 hw) (w88 hw) (w7 hw) (w90 hw) rfl E_b1413 (argsL := [(.ref b1480)]) (rest := []) (mr959 l Z a0 hw [] T1531.heap n0 s_WIN s_LOSS s_DRAW s_SW s_EM e0_ e1_ e2_ e3_ b1397 b1407 b1409 b1411 b1413 b1423 b1425 b1427 b1429 b1467 b1480 b1518 k901 k902 kb1406 kb1408 kb1410 kb1422 kb1424 kb1426 kb1466 kb1517 ((0 : Int32) + (1 : Int32)) (bumpD (0 : Int32) v0_ v1_) (bump (0 : Int32) v0_ 0) (bump (0 : Int32) v1_ 0) (bump (0 : Int32) v0_ 2) (bump (0 : Int32) v1_ 2) (bump (0 : Int32) v0_ 1) (bump (0 : Int32) v1_ 1) (0 : Int32) (0 : Int32) (0 : Int32) (0 : Int32) (0 : Int32) (0 : Int32) (0 : Int32) (0 : Int32) v0_ v1_ v2_ v3_ P1534) (lenOf pd12 rfl) (hb Y at_143) fun T1533 L1533 v1533 X1533 hQ1533 => ?_
  obtain ⟨rfl, N1533q, P1533⟩ := hQ1533
  obtain ⟨S_WIN, S_LOSS, S_DRAW, S__SwitchMap_com_example_g, S_DEFAULTCAPACITY_EMPTY_EL, E_s_WIN, F_s_WIN_ordinal, E_s_LOSS, F_s_LOSS_ordinal, E_s_DRAW, F_s_DRAW_ordinal, V_s_SW, V_s_EM, E_b1397, F_b1397_wins, F_b1397_draws, F_b1397_losses, F_b1397_matches, F_b1397_drawnMatches, V_b1407, V_b1409, V_b1411, E_b1413, F_b1413_wins, F_b1413_draws, F_b1413_losses, F_b1413_matches, F_b1413_drawnMatches, V_b1423, V_b1425, V_b1427, E_b1429, F_b1429_modCount, F_b1429_elementData, F_b1429_s, E_e0_, E_b1467, V_b1467, O_b1467, E_e1_, E_b1480, F_b1480_modCount, F_b1480_elementData, F_b1480_s, E_e2_, E_b1518, V_b1518, O_b1518, E_e3_, g_b1397, lt_b1397_b1407, lt_b1407_b1409, lt_b1409_b1411, lt_b1411_b1413, lt_b1413_b1423, lt_b1423_b1425, lt_b1425_b1427, lt_b1427_b1429, lt_b1429_b1467, lt_b1467_b1480, lt_b1480_b1518, od_s_WIN, od_s_LOSS, od_s_DRAW, od_s_SW, od_s_EM, od_e0_, od_e1_, od_e2_, od_e3_, hv0, hv1, hv2, hv3, he0, he1, he2, he3⟩ := id P1533
  have N1533 := Fr.app N1531 N1533q
  refine iL X1533 hx (hb Y at_146) rfl <| fN X1533 hx (hb Y at_148) <| aA X1533 hx (hb Y at_151) rfl rfl <| aA X1533 hx (hb Y at_153) rfl rfl ?_
  have P1536 : St27 Z T1533.heap n0 s_WIN s_LOSS s_DRAW s_SW s_EM e0_ e1_ e2_ e3_ b1397 b1407 b1409 b1411 b1413 b1423 b1425 b1427 b1429 b1467 b1480 b1518 k901 k902 kb1406 kb1408 kb1410 kb1422 kb1424 kb1426 kb1466 kb1517 ((0 : Int32) + (1 : Int32)) (bumpD (0 : Int32) v0_ v1_) (bump (0 : Int32) v0_ 0) (bump (0 : Int32) v1_ 0) (bump (0 : Int32) v0_ 2) (bump (0 : Int32) v1_ 2) (bump (0 : Int32) v0_ 1) (bump (0 : Int32) v1_ 1) ((0 : Int32) + (1 : Int32)) (bumpD (0 : Int32) v2_ v3_) (bump (0 : Int32) v2_ 0) (bump (0 : Int32) v3_ 0) (bump (0 : Int32) v2_ 2) (bump (0 : Int32) v3_ 2) (bump (0 : Int32) v2_ 1) (bump (0 : Int32) v3_ 1) v0_ v1_ v2_ v3_ := ⟨S_WIN, S_LOSS, S_DRAW, S__SwitchMap_com_example_g, S_DEFAULTCAPACITY_EMPTY_EL, E_s_WIN, F_s_WIN_ordinal, E_s_LOSS, F_s_LOSS_ordinal, E_s_DRAW, F_s_DRAW_ordinal, V_s_SW, V_s_EM, E_b1397, F_b1397_wins, F_b1397_draws, F_b1397_losses, F_b1397_matches, F_b1397_drawnMatches, V_b1407, V_b1409, V_b1411, E_b1413, F_b1413_wins, F_b1413_draws, F_b1413_losses, F_b1413_matches, F_b1413_drawnMatches, V_b1423, V_b1425, V_b1427, E_b1429, F_b1429_modCount, F_b1429_elementData, F_b1429_s, E_e0_, E_b1467, V_b1467, O_b1467, E_e1_, E_b1480, F_b1480_modCount, F_b1480_elementData, F_b1480_s, E_e2_, E_b1518, V_b1518, O_b1518, E_e3_, g_b1397, lt_b1397_b1407, lt_b1407_b1409, lt_b1409_b1411, lt_b1411_b1413, lt_b1413_b1423, lt_b1423_b1425, lt_b1425_b1427, lt_b1427_b1429, lt_b1429_b1467, lt_b1467_b1480, lt_b1480_b1518, od_s_WIN, od_s_LOSS, od_s_DRAW, od_s_SW, od_s_EM, od_e0_, od_e1_, od_e2_, od_e3_, hv0, hv1, hv2, hv3, he0, he1, he2, he3⟩
  refine vV X1533 hx hZ hO (by rw [hml]; rfl) (w86 hw) (w87 hw) (w89 hw) (w88 hw) (w7 hw) (w90 hw) rfl E_b1413 (argsL := [(.ref b1480)]) (rest := []) (mr959 l Z a0 hw [] T1533.heap n0 s_WIN s_LOSS s_DRAW s_SW s_EM e0_ e1_ e2_ e3_ b1397 b1407 b1409 b1411 b1413 b1423 b1425 b1427 b1429 b1467 b1480 b1518 k901 k902 kb1406 kb1408 kb1410 kb1422 kb1424 kb1426 kb1466 kb1517 ((0 : Int32) + (1 : Int32)) (bumpD (0 : Int32) v0_ v1_) (bump (0 : Int32) v0_ 0) (bump (0 : Int32) v1_ 0) (bump (0 : Int32) v0_ 2) (bump (0 : Int32) v1_ 2) (bump (0 : Int32) v0_ 1) (bump (0 : Int32) v1_ 1) ((0 : Int32) + (1 : Int32)) (bumpD (0 : Int32) v2_ v3_) (bump (0 : Int32) v2_ 0) (bump (0 : Int32) v3_ 0) (bump (0 : Int32) v2_ 2) (bump (0 : Int32) v3_ 2) (bump (0 : Int32) v2_ 1) (bump (0 : Int32) v3_ 1) v0_ v1_ v2_ v3_ P1536) (lenOf pd12 rfl) (hb Y at_155) fun T1535 L1535 v1535 X1535 hQ1535 => ?_
  obtain ⟨rfl, N1535q, P1535⟩ := hQ1535
  obtain ⟨S_WIN, S_LOSS, S_DRAW, S__SwitchMap_com_example_g, S_DEFAULTCAPACITY_EMPTY_EL, E_s_WIN, F_s_WIN_ordinal, E_s_LOSS, F_s_LOSS_ordinal, E_s_DRAW, F_s_DRAW_ordinal, V_s_SW, V_s_EM, E_b1397, F_b1397_wins, F_b1397_draws, F_b1397_losses, F_b1397_matches, F_b1397_drawnMatches, V_b1407, V_b1409, V_b1411, E_b1413, F_b1413_wins, F_b1413_draws, F_b1413_losses, F_b1413_matches, F_b1413_drawnMatches, V_b1423, V_b1425, V_b1427, E_b1429, F_b1429_modCount, F_b1429_elementData, F_b1429_s, E_e0_, E_b1467, V_b1467, O_b1467, E_e1_, E_b1480, F_b1480_modCount, F_b1480_elementData, F_b1480_s, E_e2_, E_b1518, V_b1518, O_b1518, E_e3_, g_b1397, lt_b1397_b1407, lt_b1407_b1409, lt_b1409_b1411, lt_b1411_b1413, lt_b1413_b1423, lt_b1423_b1425, lt_b1425_b1427, lt_b1427_b1429, lt_b1429_b1467, lt_b1467_b1480, lt_b1480_b1518, od_s_WIN, od_s_LOSS, od_s_DRAW, od_s_SW, od_s_EM, od_e0_, od_e1_, od_e2_, od_e3_, hv0, hv1, hv2, hv3, he0, he1, he2, he3⟩ := id P1535
  have N1535 := Fr.app N1533 N1535q
  refine aA X1535 hx (hb Y at_158) rfl rfl <| aA X1535 hx (hb Y at_160) rfl rfl ?_
  have P1593 : St32 Z T1535.heap n0 s_WIN s_LOSS s_DRAW s_SW s_EM e0_ e1_ e2_ e3_ b1397 b1407 b1409 b1411 b1413 b1423 b1425 b1427 b1429 b1467 b1480 b1518 k901 k902 kb1406 kb1408 kb1410 kb1422 kb1424 kb1426 kb1466 kb1517 v0_ v1_ v2_ v3_ := ⟨S_WIN, S_LOSS, S_DRAW, S__SwitchMap_com_example_g, S_DEFAULTCAPACITY_EMPTY_EL, E_s_WIN, F_s_WIN_ordinal, E_s_LOSS, F_s_LOSS_ordinal, E_s_DRAW, F_s_DRAW_ordinal, V_s_SW, V_s_EM, E_b1397, F_b1397_wins, F_b1397_draws, F_b1397_losses, F_b1397_matches, F_b1397_drawnMatches, V_b1407, V_b1409, V_b1411, E_b1413, F_b1413_wins, F_b1413_draws, F_b1413_losses, F_b1413_matches, F_b1413_drawnMatches, V_b1423, V_b1425, V_b1427, E_b1429, F_b1429_modCount, F_b1429_elementData, F_b1429_s, E_e0_, E_b1467, V_b1467, O_b1467, E_e1_, E_b1480, F_b1480_modCount, F_b1480_elementData, F_b1480_s, E_e2_, E_b1518, V_b1518, O_b1518, E_e3_, g_b1397, lt_b1397_b1407, lt_b1407_b1409, lt_b1409_b1411, lt_b1411_b1413, lt_b1413_b1423, lt_b1423_b1425, lt_b1425_b1427, lt_b1427_b1429, lt_b1429_b1467, lt_b1467_b1480, lt_b1480_b1518, od_s_WIN, od_s_LOSS, od_s_DRAW, od_s_SW, od_s_EM, od_e0_, od_e1_, od_e2_, od_e3_⟩
  refine vV X1535 hx hZ hO (by rw [hml]; rfl) (w137 hw) (w138 hw) (w140 hw) (w139 hw) (w7 hw) (w141 hw) rfl E_b1397 (argsL := [(.ref b1413)]) (rest := []) (m1592 l Z a0 hw [] T1535.heap n0 s_WIN s_LOSS s_DRAW s_SW s_EM e0_ e1_ e2_ e3_ b1397 b1407 b1409 b1411 b1413 b1423 b1425 b1427 b1429 b1467 b1480 b1518 k901 k902 kb1406 kb1408 kb1410 kb1422 kb1424 kb1426 kb1466 kb1517 v0_ v1_ v2_ v3_ P1593) (lenOf pd13 rfl) (hb Y at_162) fun T1537 L1537 v1537 X1537 hQ1537 => ?_
  obtain ⟨rfl, N1537q, P1537⟩ := hQ1537
  obtain ⟨S_WIN, S_LOSS, S_DRAW, S__SwitchMap_com_example_g, S_DEFAULTCAPACITY_EMPTY_EL, E_s_WIN, F_s_WIN_ordinal, E_s_LOSS, F_s_LOSS_ordinal, E_s_DRAW, F_s_DRAW_ordinal, V_s_SW, V_s_EM, E_b1397, F_b1397_wins, F_b1397_draws, F_b1397_losses, F_b1397_matches, F_b1397_drawnMatches, V_b1407, V_b1409, V_b1411, E_b1413, F_b1413_wins, F_b1413_draws, F_b1413_losses, F_b1413_matches, F_b1413_drawnMatches, V_b1423, V_b1425, V_b1427, E_b1429, F_b1429_modCount, F_b1429_elementData, F_b1429_s, E_e0_, E_b1467, V_b1467, O_b1467, E_e1_, E_b1480, F_b1480_modCount, F_b1480_elementData, F_b1480_s, E_e2_, E_b1518, V_b1518, O_b1518, E_e3_, g_b1397, lt_b1397_b1407, lt_b1407_b1409, lt_b1409_b1411, lt_b1411_b1413, lt_b1413_b1423, lt_b1423_b1425, lt_b1425_b1427, lt_b1427_b1429, lt_b1429_b1467, lt_b1467_b1480, lt_b1480_b1518, od_s_WIN, od_s_LOSS, od_s_DRAW, od_s_SW, od_s_EM, od_e0_, od_e1_, od_e2_, od_e3_⟩ := id P1537
  have N1537 := Fr.app N1535 N1537q
  refine iL X1537 hx (hb Y at_165) rfl <| iK X1537 hx (z := 2) (hb Y at_167) <| f_stat X1537 hx hZ hO (by rw [hml]; rfl) (w144 hw) (w145 hw) (w2 hw) (w146 hw) rfl (argsL := [(.int v0_), (.int 2)]) (rest := []) (own_is l Z a0 hw [] T1537.heap n0 v0_ (2 : Int32)) (lenOf pd4 rfl) (hb Y at_168) fun T1594 L1594 v1594 X1594 hQ1594 => ?_
  obtain ⟨rfl, N1594q, e1594⟩ := hQ1594
  have N1594 := Fr.app N1537 N1594q
  refine iL X1594 hx (hb Y at_171) rfl <| iK X1594 hx (z := 2) (hb Y at_173) <| f_stat X1594 hx hZ hO (by rw [hml]; rfl) (w144 hw) (w145 hw) (w2 hw) (w146 hw) e1594 (argsL := [(.int v1_), (.int 2)]) (rest := [(.int (isF v0_ (2 : Int32)))]) (own_is l Z a0 hw [] T1537.heap n0 v1_ (2 : Int32)) (lenOf pd4 rfl) (hb Y at_174) fun T1595 L1595 v1595 X1595 hQ1595 => ?_
  obtain ⟨rfl, N1595q, e1595⟩ := hQ1595
  have N1595 := Fr.app N1594 N1595q
  refine f_iand X1595 hx (z := ((isF v0_ (2 : Int32)) &&& (isF v1_ (2 : Int32)))) (hb Y at_177) (q := rfl) <| iL X1595 hx (hb Y at_178) rfl <| iL X1595 hx (hb Y at_180) rfl <| iK X1595 hx (z := 2) (hb Y at_182) <| f_stat X1595 hx hZ hO (by rw [hml]; rfl) (w144 hw) (w145 hw) (w2 hw) (w146 hw) e1595 (argsL := [(.int v2_), (.int 2)]) (rest := [(.int 2), (.int ((isF v0_ (2 : Int32)) &&& (isF v1_ (2 : Int32))))]) (own_is l Z a0 hw [] T1537.heap n0 v2_ (2 : Int32)) (lenOf pd4 rfl) (hb Y at_183) fun T1596 L1596 v1596 X1596 hQ1596 => ?_
  obtain ⟨rfl, N1596q, e1596⟩ := hQ1596
  have N1596 := Fr.app N1595 N1596q
  refine iL X1596 hx (hb Y at_186) rfl <| iK X1596 hx (z := 2) (hb Y at_188) <| f_stat X1596 hx hZ hO (by rw [hml]; rfl) (w144 hw) (w145 hw) (w2 hw) (w146 hw) e1596 (argsL := [(.int v3_), (.int 2)]) (rest := [(.int (isF v2_ (2 : Int32))), (.int 2), (.int ((isF v0_ (2 : Int32)) &&& (isF v1_ (2 : Int32))))]) (own_is l Z a0 hw [] T1537.heap n0 v3_ (2 : Int32)) (lenOf pd4 rfl) (hb Y at_189) fun T1597 L1597 v1597 X1597 hQ1597 => ?_
  obtain ⟨rfl, N1597q, e1597⟩ := hQ1597
  have N1597 := Fr.app N1596 N1597q
  refine f_iand X1597 hx (z := ((isF v2_ (2 : Int32)) &&& (isF v3_ (2 : Int32)))) (hb Y at_192) (q := rfl) <| f_imul X1597 hx (z := ((2 : Int32) * ((isF v2_ (2 : Int32)) &&& (isF v3_ (2 : Int32))))) (hb Y at_193) (q := rfl) <| iA X1597 hx (z := (((isF v0_ (2 : Int32)) &&& (isF v1_ (2 : Int32))) + ((2 : Int32) * ((isF v2_ (2 : Int32)) &&& (isF v3_ (2 : Int32)))))) (hb Y at_194) (q := rfl) <| iS X1597 hx (L' := #[(iv p0), (iv p1), (iv p2), (iv p3), (iv p4), (iv v0_), (iv v1_), (iv v2_), (iv v3_), (iv 1), (iv 2), (rv b1397), (rv b1413), (rv b1429), (rv b1480), (iv (((isF v0_ (2 : Int32)) &&& (isF v1_ (2 : Int32))) + ((2 : Int32) * ((isF v2_ (2 : Int32)) &&& (isF v3_ (2 : Int32)))))), .unset]) (hb Y at_195) rfl <| aA X1597 hx (hb Y at_197) rfl rfl <| vV X1597 hx hZ hO (by rw [hml]; rfl) (w147 hw) (w148 hw) (w150 hw) (w149 hw) (w7 hw) (w151 hw) e1597 E_b1397 (argsL := []) (rest := []) (q1600 l Z a0 hw [] T1537.heap n0 b1397 F_b1397_matches) (lenOf pd9 rfl) (hb Y at_199) fun T1598 L1598 v1598 X1598 hQ1598 => ?_
  obtain ⟨rfl, N1598q, e1598⟩ := hQ1598
  have N1598 := Fr.app N1597 N1598q
  refine iK X1598 hx (z := 1) (hb Y at_202) <| iL X1598 hx (hb Y at_203) rfl <| iA X1598 hx (z := 3) (hb Y at_205) <| cN X1598 hx (hb Y at_206) (hc := (teq (by  decide +kernel : (((0 : Int32) + (1 : Int32)) + (((0 : Int32) + (1 : Int32)) + (1 : Int32))) = (3 : Int32))).2) <| iK X1598 hx (z := 1) (hb Y at_209) <| gT X1598 hx (pc := 210) 214 (hb Y at_210) <| iS X1598 hx (L' := #[(iv p0), (iv p1), (iv p2), (iv p3), (iv p4), (iv v0_), (iv v1_), (iv v2_), (iv v3_), (iv 1), (iv 2), (rv b1397), (rv b1413), (rv b1429), (rv b1480), (iv (((isF v0_ (2 : Int32)) &&& (isF v1_ (2 : Int32))) + ((2 : Int32) * ((isF v2_ (2 : Int32)) &&& (isF v3_ (2 : Int32)))))), (iv 1)]) (hb Y at_214) rfl <| iL X1598 hx (hb Y at_216) rfl <| fN X1598 hx (hb Y at_218) <| aA X1598 hx (hb Y at_221) rfl rfl <| vV X1598 hx hZ hO (by rw [hml]; rfl) (w152 hw) (w153 hw) (w155 hw) (w154 hw) (w7 hw) (w156 hw) e1598 E_b1397 (argsL := []) (rest := []) (q1603 l Z a0 hw [] T1537.heap n0 b1397 v0_ v1_ v2_ v3_ F_b1397_drawnMatches) (lenOf pd9 rfl) (hb Y at_223) fun T1601 L1601 v1601 X1601 hQ1601 => ?_
  obtain ⟨rfl, N1601q, e1601⟩ := hQ1601
  have N1601 := Fr.app N1598 N1601q
  refine iL X1601 hx (hb Y at_226) rfl <| cN X1601 hx (hb Y at_228) (hc := (teq (by rcases hv0 with rfl | rfl | rfl <;> rcases hv1 with rfl | rfl | rfl <;> rcases hv2 with rfl | rfl | rfl <;> rcases hv3 with rfl | rfl | rfl <;>  decide +kernel : ((bumpD (0 : Int32) v0_ v1_) + (bumpD (bumpD (0 : Int32) v2_ v3_) v2_ v3_)) = (((isF v0_ (2 : Int32)) &&& (isF v1_ (2 : Int32))) + ((2 : Int32) * ((isF v2_ (2 : Int32)) &&& (isF v3_ (2 : Int32))))))).2) <| iK X1601 hx (z := 1) (hb Y at_231) <| gT X1601 hx (pc := 232) 236 (hb Y at_232) <| iS X1601 hx (L' := #[(iv p0), (iv p1), (iv p2), (iv p3), (iv p4), (iv v0_), (iv v1_), (iv v2_), (iv v3_), (iv 1), (iv 2), (rv b1397), (rv b1413), (rv b1429), (rv b1480), (iv (((isF v0_ (2 : Int32)) &&& (isF v1_ (2 : Int32))) + ((2 : Int32) * ((isF v2_ (2 : Int32)) &&& (isF v3_ (2 : Int32)))))), (iv 1)]) (hb Y at_236) rfl <| iL X1601 hx (hb Y at_238) rfl <| fN X1601 hx (hb Y at_240) <| aA X1601 hx (hb Y at_243) rfl rfl <| iK X1601 hx (z := 0) (hb Y at_245) <| vV X1601 hx hZ hO (by rw [hml]; rfl) (w157 hw) (w158 hw) (w160 hw) (w159 hw) (w7 hw) (w161 hw) e1601 E_b1397 (argsL := [(.int 0)]) (rest := []) (q1606 l Z a0 hw [] T1537.heap n0 b1397 b1407 kb1406 v0_ v2_ v1_ v3_ F_b1397_wins V_b1407) (lenOf pd0 rfl) (hb Y at_246) fun T1604 L1604 v1604 X1604 hQ1604 => ?_
  obtain ⟨rfl, N1604q, e1604⟩ := hQ1604
  have N1604 := Fr.app N1601 N1604q
  refine iL X1604 hx (hb Y at_249) rfl <| iK X1604 hx (z := 0) (hb Y at_251) <| f_stat X1604 hx hZ hO (by rw [hml]; rfl) (w144 hw) (w145 hw) (w2 hw) (w146 hw) e1604 (argsL := [(.int v0_), (.int 0)]) (rest := [(.int ((bump (0 : Int32) v0_ 0) + (bump (bump (0 : Int32) v2_ 0) v2_ 0)))]) (own_is l Z a0 hw [] T1537.heap n0 v0_ (0 : Int32)) (lenOf pd4 rfl) (hb Y at_252) fun T1607 L1607 v1607 X1607 hQ1607 => ?_
  obtain ⟨rfl, N1607q, e1607⟩ := hQ1607
  have N1607 := Fr.app N1604 N1607q
  refine iL X1607 hx (hb Y at_255) rfl <| iL X1607 hx (hb Y at_257) rfl <| iK X1607 hx (z := 0) (hb Y at_259) <| f_stat X1607 hx hZ hO (by rw [hml]; rfl) (w144 hw) (w145 hw) (w2 hw) (w146 hw) e1607 (argsL := [(.int v2_), (.int 0)]) (rest := [(.int 2), (.int (isF v0_ (0 : Int32))), (.int ((bump (0 : Int32) v0_ 0) + (bump (bump (0 : Int32) v2_ 0) v2_ 0)))]) (own_is l Z a0 hw [] T1537.heap n0 v2_ (0 : Int32)) (lenOf pd4 rfl) (hb Y at_260) fun T1608 L1608 v1608 X1608 hQ1608 => ?_
  obtain ⟨rfl, N1608q, e1608⟩ := hQ1608
  have N1608 := Fr.app N1607 N1608q
  refine f_imul X1608 hx (z := ((2 : Int32) * (isF v2_ (0 : Int32)))) (hb Y at_263) (q := rfl) <| iA X1608 hx (z := ((isF v0_ (0 : Int32)) + ((2 : Int32) * (isF v2_ (0 : Int32))))) (hb Y at_264) (q := rfl) <| cN X1608 hx (hb Y at_265) (hc := (teq (by rcases hv0 with rfl | rfl | rfl <;> rcases hv2 with rfl | rfl | rfl <;>  decide +kernel : ((bump (0 : Int32) v0_ 0) + (bump (bump (0 : Int32) v2_ 0) v2_ 0)) = ((isF v0_ (0 : Int32)) + ((2 : Int32) * (isF v2_ (0 : Int32)))))).2) <| iK X1608 hx (z := 1) (hb Y at_268) <| gT X1608 hx (pc := 269) 273 (hb Y at_269) <| iS X1608 hx (L' := #[(iv p0), (iv p1), (iv p2), (iv p3), (iv p4), (iv v0_), (iv v1_), (iv v2_), (iv v3_), (iv 1), (iv 2), (rv b1397), (rv b1413), (rv b1429), (rv b1480), (iv (((isF v0_ (2 : Int32)) &&& (isF v1_ (2 : Int32))) + ((2 : Int32) * ((isF v2_ (2 : Int32)) &&& (isF v3_ (2 : Int32)))))), (iv 1)]) (hb Y at_273) rfl <| iL X1608 hx (hb Y at_275) rfl <| fN X1608 hx (hb Y at_277) <| aA X1608 hx (hb Y at_280) rfl rfl <| iK X1608 hx (z := 0) (hb Y at_282) <| vV X1608 hx hZ hO (by rw [hml]; rfl) (w162 hw) (w163 hw) (w165 hw) (w164 hw) (w7 hw) (w166 hw) e1608 E_b1397 (argsL := [(.int 0)]) (rest := []) (q1611 l Z a0 hw [] T1537.heap n0 b1397 b1411 kb1410 v0_ v2_ v1_ v3_ F_b1397_losses V_b1411) (lenOf pd0 rfl) (hb Y at_283) fun T1609 L1609 v1609 X1609 hQ1609 => ?_
  obtain ⟨rfl, N1609q, e1609⟩ := hQ1609
  have N1609 := Fr.app N1608 N1609q
  refine iL X1609 hx (hb Y at_286) rfl <| iK X1609 hx (z := 1) (hb Y at_288) <| f_stat X1609 hx hZ hO (by rw [hml]; rfl) (w144 hw) (w145 hw) (w2 hw) (w146 hw) e1609 (argsL := [(.int v0_), (.int 1)]) (rest := [(.int ((bump (0 : Int32) v0_ 1) + (bump (bump (0 : Int32) v2_ 1) v2_ 1)))]) (own_is l Z a0 hw [] T1537.heap n0 v0_ (1 : Int32)) (lenOf pd4 rfl) (hb Y at_289) fun T1612 L1612 v1612 X1612 hQ1612 => ?_
  obtain ⟨rfl, N1612q, e1612⟩ := hQ1612
  have N1612 := Fr.app N1609 N1612q
  refine iL X1612 hx (hb Y at_292) rfl <| iL X1612 hx (hb Y at_294) rfl <| iK X1612 hx (z := 1) (hb Y at_296) <| f_stat X1612 hx hZ hO (by rw [hml]; rfl) (w144 hw) (w145 hw) (w2 hw) (w146 hw) e1612 (argsL := [(.int v2_), (.int 1)]) (rest := [(.int 2), (.int (isF v0_ (1 : Int32))), (.int ((bump (0 : Int32) v0_ 1) + (bump (bump (0 : Int32) v2_ 1) v2_ 1)))]) (own_is l Z a0 hw [] T1537.heap n0 v2_ (1 : Int32)) (lenOf pd4 rfl) (hb Y at_297) fun T1613 L1613 v1613 X1613 hQ1613 => ?_
  obtain ⟨rfl, N1613q, e1613⟩ := hQ1613
  have N1613 := Fr.app N1612 N1613q
  refine f_imul X1613 hx (z := ((2 : Int32) * (isF v2_ (1 : Int32)))) (hb Y at_300) (q := rfl) <| iA X1613 hx (z := ((isF v0_ (1 : Int32)) + ((2 : Int32) * (isF v2_ (1 : Int32))))) (hb Y at_301) (q := rfl) <| cN X1613 hx (hb Y at_302) (hc := (teq (by rcases hv0 with rfl | rfl | rfl <;> rcases hv2 with rfl | rfl | rfl <;>  decide +kernel : ((bump (0 : Int32) v0_ 1) + (bump (bump (0 : Int32) v2_ 1) v2_ 1)) = ((isF v0_ (1 : Int32)) + ((2 : Int32) * (isF v2_ (1 : Int32)))))).2) <| iK X1613 hx (z := 1) (hb Y at_305) <| gT X1613 hx (pc := 306) 310 (hb Y at_306) <| iS X1613 hx (L' := #[(iv p0), (iv p1), (iv p2), (iv p3), (iv p4), (iv v0_), (iv v1_), (iv v2_), (iv v3_), (iv 1), (iv 2), (rv b1397), (rv b1413), (rv b1429), (rv b1480), (iv (((isF v0_ (2 : Int32)) &&& (isF v1_ (2 : Int32))) + ((2 : Int32) * ((isF v2_ (2 : Int32)) &&& (isF v3_ (2 : Int32)))))), (iv 1)]) (hb Y at_310) rfl <| iL X1613 hx (hb Y at_312) rfl <| fN X1613 hx (hb Y at_314) <| aA X1613 hx (hb Y at_317) rfl rfl <| iK X1613 hx (z := 0) (hb Y at_319) <| vV X1613 hx hZ hO (by rw [hml]; rfl) (w167 hw) (w168 hw) (w170 hw) (w169 hw) (w7 hw) (w171 hw) e1613 E_b1397 (argsL := [(.int 0)]) (rest := []) (q1616 l Z a0 hw [] T1537.heap n0 b1397 b1409 kb1408 v0_ v2_ v1_ v3_ F_b1397_draws V_b1409) (lenOf pd0 rfl) (hb Y at_320) fun T1614 L1614 v1614 X1614 hQ1614 => ?_
  obtain ⟨rfl, N1614q, e1614⟩ := hQ1614
  have N1614 := Fr.app N1613 N1614q
  refine iL X1614 hx (hb Y at_323) rfl <| iK X1614 hx (z := 2) (hb Y at_325) <| f_stat X1614 hx hZ hO (by rw [hml]; rfl) (w144 hw) (w145 hw) (w2 hw) (w146 hw) e1614 (argsL := [(.int v0_), (.int 2)]) (rest := [(.int ((bump (0 : Int32) v0_ 2) + (bump (bump (0 : Int32) v2_ 2) v2_ 2)))]) (own_is l Z a0 hw [] T1537.heap n0 v0_ (2 : Int32)) (lenOf pd4 rfl) (hb Y at_326) fun T1617 L1617 v1617 X1617 hQ1617 => ?_
  obtain ⟨rfl, N1617q, e1617⟩ := hQ1617
  have N1617 := Fr.app N1614 N1617q
  refine iL X1617 hx (hb Y at_329) rfl <| iL X1617 hx (hb Y at_331) rfl <| iK X1617 hx (z := 2) (hb Y at_333) <| f_stat X1617 hx hZ hO (by rw [hml]; rfl) (w144 hw) (w145 hw) (w2 hw) (w146 hw) e1617 (argsL := [(.int v2_), (.int 2)]) (rest := [(.int 2), (.int (isF v0_ (2 : Int32))), (.int ((bump (0 : Int32) v0_ 2) + (bump (bump (0 : Int32) v2_ 2) v2_ 2)))]) (own_is l Z a0 hw [] T1537.heap n0 v2_ (2 : Int32)) (lenOf pd4 rfl) (hb Y at_334) fun T1618 L1618 v1618 X1618 hQ1618 => ?_
  obtain ⟨rfl, N1618q, e1618⟩ := hQ1618
  have N1618 := Fr.app N1617 N1618q
  refine f_imul X1618 hx (z := ((2 : Int32) * (isF v2_ (2 : Int32)))) (hb Y at_337) (q := rfl) <| iA X1618 hx (z := ((isF v0_ (2 : Int32)) + ((2 : Int32) * (isF v2_ (2 : Int32))))) (hb Y at_338) (q := rfl) <| cN X1618 hx (hb Y at_339) (hc := (teq (by rcases hv0 with rfl | rfl | rfl <;> rcases hv2 with rfl | rfl | rfl <;>  decide +kernel : ((bump (0 : Int32) v0_ 2) + (bump (bump (0 : Int32) v2_ 2) v2_ 2)) = ((isF v0_ (2 : Int32)) + ((2 : Int32) * (isF v2_ (2 : Int32)))))).2) <| iK X1618 hx (z := 1) (hb Y at_342) <| gT X1618 hx (pc := 343) 347 (hb Y at_343) <| iS X1618 hx (L' := #[(iv p0), (iv p1), (iv p2), (iv p3), (iv p4), (iv v0_), (iv v1_), (iv v2_), (iv v3_), (iv 1), (iv 2), (rv b1397), (rv b1413), (rv b1429), (rv b1480), (iv (((isF v0_ (2 : Int32)) &&& (isF v1_ (2 : Int32))) + ((2 : Int32) * ((isF v2_ (2 : Int32)) &&& (isF v3_ (2 : Int32)))))), (iv 1)]) (hb Y at_347) rfl <| iL X1618 hx (hb Y at_349) rfl <| fN X1618 hx (hb Y at_351) <| aA X1618 hx (hb Y at_354) rfl rfl <| iK X1618 hx (z := 1) (hb Y at_356) <| vV X1618 hx hZ hO (by rw [hml]; rfl) (w157 hw) (w158 hw) (w160 hw) (w159 hw) (w7 hw) (w161 hw) e1618 E_b1397 (argsL := [(.int 1)]) (rest := []) (q1621 l Z a0 hw [] T1537.heap n0 b1397 b1407 kb1406 v0_ v2_ v1_ v3_ F_b1397_wins V_b1407) (lenOf pd0 rfl) (hb Y at_357) fun T1619 L1619 v1619 X1619 hQ1619 => ?_
  obtain ⟨rfl, N1619q, e1619⟩ := hQ1619
  have N1619 := Fr.app N1618 N1619q
  refine iL X1619 hx (hb Y at_360) rfl <| iK X1619 hx (z := 0) (hb Y at_362) <| f_stat X1619 hx hZ hO (by rw [hml]; rfl) (w144 hw) (w145 hw) (w2 hw) (w146 hw) e1619 (argsL := [(.int v1_), (.int 0)]) (rest := [(.int ((bump (0 : Int32) v1_ 0) + (bump (bump (0 : Int32) v3_ 0) v3_ 0)))]) (own_is l Z a0 hw [] T1537.heap n0 v1_ (0 : Int32)) (lenOf pd4 rfl) (hb Y at_363) fun T1622 L1622 v1622 X1622 hQ1622 => ?_
  obtain ⟨rfl, N1622q, e1622⟩ := hQ1622
  have N1622 := Fr.app N1619 N1622q
  refine iL X1622 hx (hb Y at_366) rfl <| iL X1622 hx (hb Y at_368) rfl <| iK X1622 hx (z := 0) (hb Y at_370) <| f_stat X1622 hx hZ hO (by rw [hml]; rfl) (w144 hw) (w145 hw) (w2 hw) (w146 hw) e1622 (argsL := [(.int v3_), (.int 0)]) (rest := [(.int 2), (.int (isF v1_ (0 : Int32))), (.int ((bump (0 : Int32) v1_ 0) + (bump (bump (0 : Int32) v3_ 0) v3_ 0)))]) (own_is l Z a0 hw [] T1537.heap n0 v3_ (0 : Int32)) (lenOf pd4 rfl) (hb Y at_371) fun T1623 L1623 v1623 X1623 hQ1623 => ?_
  obtain ⟨rfl, N1623q, e1623⟩ := hQ1623
  have N1623 := Fr.app N1622 N1623q
  refine f_imul X1623 hx (z := ((2 : Int32) * (isF v3_ (0 : Int32)))) (hb Y at_374) (q := rfl) <| iA X1623 hx (z := ((isF v1_ (0 : Int32)) + ((2 : Int32) * (isF v3_ (0 : Int32))))) (hb Y at_375) (q := rfl) <| cN X1623 hx (hb Y at_376) (hc := (teq (by rcases hv1 with rfl | rfl | rfl <;> rcases hv3 with rfl | rfl | rfl <;>  decide +kernel : ((bump (0 : Int32) v1_ 0) + (bump (bump (0 : Int32) v3_ 0) v3_ 0)) = ((isF v1_ (0 : Int32)) + ((2 : Int32) * (isF v3_ (0 : Int32)))))).2) <| iK X1623 hx (z := 1) (hb Y at_379) <| gT X1623 hx (pc := 380) 384 (hb Y at_380) <| iS X1623 hx (L' := #[(iv p0), (iv p1), (iv p2), (iv p3), (iv p4), (iv v0_), (iv v1_), (iv v2_), (iv v3_), (iv 1), (iv 2), (rv b1397), (rv b1413), (rv b1429), (rv b1480), (iv (((isF v0_ (2 : Int32)) &&& (isF v1_ (2 : Int32))) + ((2 : Int32) * ((isF v2_ (2 : Int32)) &&& (isF v3_ (2 : Int32)))))), (iv 1)]) (hb Y at_384) rfl <| iL X1623 hx (hb Y at_386) rfl <| fN X1623 hx (hb Y at_388) <| aA X1623 hx (hb Y at_391) rfl rfl <| iK X1623 hx (z := 1) (hb Y at_393) <| vV X1623 hx hZ hO (by rw [hml]; rfl) (w162 hw) (w163 hw) (w165 hw) (w164 hw) (w7 hw) (w166 hw) e1623 E_b1397 (argsL := [(.int 1)]) (rest := []) (q1626 l Z a0 hw [] T1537.heap n0 b1397 b1411 kb1410 v0_ v2_ v1_ v3_ F_b1397_losses V_b1411) (lenOf pd0 rfl) (hb Y at_394) fun T1624 L1624 v1624 X1624 hQ1624 => ?_
  obtain ⟨rfl, N1624q, e1624⟩ := hQ1624
  have N1624 := Fr.app N1623 N1624q
  refine iL X1624 hx (hb Y at_397) rfl <| iK X1624 hx (z := 1) (hb Y at_399) <| f_stat X1624 hx hZ hO (by rw [hml]; rfl) (w144 hw) (w145 hw) (w2 hw) (w146 hw) e1624 (argsL := [(.int v1_), (.int 1)]) (rest := [(.int ((bump (0 : Int32) v1_ 1) + (bump (bump (0 : Int32) v3_ 1) v3_ 1)))]) (own_is l Z a0 hw [] T1537.heap n0 v1_ (1 : Int32)) (lenOf pd4 rfl) (hb Y at_400) fun T1627 L1627 v1627 X1627 hQ1627 => ?_
  obtain ⟨rfl, N1627q, e1627⟩ := hQ1627
  have N1627 := Fr.app N1624 N1627q
  refine iL X1627 hx (hb Y at_403) rfl <| iL X1627 hx (hb Y at_405) rfl <| iK X1627 hx (z := 1) (hb Y at_407) <| f_stat X1627 hx hZ hO (by rw [hml]; rfl) (w144 hw) (w145 hw) (w2 hw) (w146 hw) e1627 (argsL := [(.int v3_), (.int 1)]) (rest := [(.int 2), (.int (isF v1_ (1 : Int32))), (.int ((bump (0 : Int32) v1_ 1) + (bump (bump (0 : Int32) v3_ 1) v3_ 1)))]) (own_is l Z a0 hw [] T1537.heap n0 v3_ (1 : Int32)) (lenOf pd4 rfl) (hb Y at_408) fun T1628 L1628 v1628 X1628 hQ1628 => ?_
  obtain ⟨rfl, N1628q, e1628⟩ := hQ1628
  have N1628 := Fr.app N1627 N1628q
  refine f_imul X1628 hx (z := ((2 : Int32) * (isF v3_ (1 : Int32)))) (hb Y at_411) (q := rfl) <| iA X1628 hx (z := ((isF v1_ (1 : Int32)) + ((2 : Int32) * (isF v3_ (1 : Int32))))) (hb Y at_412) (q := rfl) <| cN X1628 hx (hb Y at_413) (hc := (teq (by rcases hv1 with rfl | rfl | rfl <;> rcases hv3 with rfl | rfl | rfl <;>  decide +kernel : ((bump (0 : Int32) v1_ 1) + (bump (bump (0 : Int32) v3_ 1) v3_ 1)) = ((isF v1_ (1 : Int32)) + ((2 : Int32) * (isF v3_ (1 : Int32)))))).2) <| iK X1628 hx (z := 1) (hb Y at_416) <| gT X1628 hx (pc := 417) 421 (hb Y at_417) <| iS X1628 hx (L' := #[(iv p0), (iv p1), (iv p2), (iv p3), (iv p4), (iv v0_), (iv v1_), (iv v2_), (iv v3_), (iv 1), (iv 2), (rv b1397), (rv b1413), (rv b1429), (rv b1480), (iv (((isF v0_ (2 : Int32)) &&& (isF v1_ (2 : Int32))) + ((2 : Int32) * ((isF v2_ (2 : Int32)) &&& (isF v3_ (2 : Int32)))))), (iv 1)]) (hb Y at_421) rfl <| iL X1628 hx (hb Y at_423) rfl <| fN X1628 hx (hb Y at_425) <| aA X1628 hx (hb Y at_428) rfl rfl <| iK X1628 hx (z := 1) (hb Y at_430) <| vV X1628 hx hZ hO (by rw [hml]; rfl) (w167 hw) (w168 hw) (w170 hw) (w169 hw) (w7 hw) (w171 hw) e1628 E_b1397 (argsL := [(.int 1)]) (rest := []) (q1631 l Z a0 hw [] T1537.heap n0 b1397 b1409 kb1408 v0_ v2_ v1_ v3_ F_b1397_draws V_b1409) (lenOf pd0 rfl) (hb Y at_431) fun T1629 L1629 v1629 X1629 hQ1629 => ?_
  obtain ⟨rfl, N1629q, e1629⟩ := hQ1629
  have N1629 := Fr.app N1628 N1629q
  refine iL X1629 hx (hb Y at_434) rfl <| iK X1629 hx (z := 2) (hb Y at_436) <| f_stat X1629 hx hZ hO (by rw [hml]; rfl) (w144 hw) (w145 hw) (w2 hw) (w146 hw) e1629 (argsL := [(.int v1_), (.int 2)]) (rest := [(.int ((bump (0 : Int32) v1_ 2) + (bump (bump (0 : Int32) v3_ 2) v3_ 2)))]) (own_is l Z a0 hw [] T1537.heap n0 v1_ (2 : Int32)) (lenOf pd4 rfl) (hb Y at_437) fun T1632 L1632 v1632 X1632 hQ1632 => ?_
  obtain ⟨rfl, N1632q, e1632⟩ := hQ1632
  have N1632 := Fr.app N1629 N1632q
  refine iL X1632 hx (hb Y at_440) rfl <| iL X1632 hx (hb Y at_442) rfl <| iK X1632 hx (z := 2) (hb Y at_444) <| f_stat X1632 hx hZ hO (by rw [hml]; rfl) (w144 hw) (w145 hw) (w2 hw) (w146 hw) e1632 (argsL := [(.int v3_), (.int 2)]) (rest := [(.int 2), (.int (isF v1_ (2 : Int32))), (.int ((bump (0 : Int32) v1_ 2) + (bump (bump (0 : Int32) v3_ 2) v3_ 2)))]) (own_is l Z a0 hw [] T1537.heap n0 v3_ (2 : Int32)) (lenOf pd4 rfl) (hb Y at_445) fun T1633 L1633 v1633 X1633 hQ1633 => ?_
  obtain ⟨rfl, N1633q, e1633⟩ := hQ1633
  have N1633 := Fr.app N1632 N1633q
  refine f_imul X1633 hx (z := ((2 : Int32) * (isF v3_ (2 : Int32)))) (hb Y at_448) (q := rfl) <| iA X1633 hx (z := ((isF v1_ (2 : Int32)) + ((2 : Int32) * (isF v3_ (2 : Int32))))) (hb Y at_449) (q := rfl) <| cN X1633 hx (hb Y at_450) (hc := (teq (by rcases hv1 with rfl | rfl | rfl <;> rcases hv3 with rfl | rfl | rfl <;>  decide +kernel : ((bump (0 : Int32) v1_ 2) + (bump (bump (0 : Int32) v3_ 2) v3_ 2)) = ((isF v1_ (2 : Int32)) + ((2 : Int32) * (isF v3_ (2 : Int32)))))).2) <| iK X1633 hx (z := 1) (hb Y at_453) <| gT X1633 hx (pc := 454) 458 (hb Y at_454) <| iS X1633 hx (L' := #[(iv p0), (iv p1), (iv p2), (iv p3), (iv p4), (iv v0_), (iv v1_), (iv v2_), (iv v3_), (iv 1), (iv 2), (rv b1397), (rv b1413), (rv b1429), (rv b1480), (iv (((isF v0_ (2 : Int32)) &&& (isF v1_ (2 : Int32))) + ((2 : Int32) * ((isF v2_ (2 : Int32)) &&& (isF v3_ (2 : Int32)))))), (iv 1)]) (hb Y at_458) rfl <| iL X1633 hx (hb Y at_460) rfl ?_
  exact f_ret X1633 hx hlk (i := .ireturn) hret rfl (Or.inl ⟨rfl, Or.inr (Or.inl rfl), _, rfl⟩) (hb Y at_462) (QQ := (QL n0)) ⟨rfl, N1633⟩ (by decide) (by decide)
theorem own_pos (p : Int32) : 0 ≤ (p &&& (2147483647 : Int32)).toInt := by
  rw [Jvm.Kit.i32_mask p 2147483647 (k := 31) (by decide) (by decide)]; omega
theorem own_mod_lo (p n : Int32) (h : 0 < n.toInt) : 0 ≤ ((p &&& (2147483647 : Int32)) % n).toInt := by
  rw [Jvm.Kit.i32_rem_nonneg (own_pos p)]; exact Int.emod_nonneg _ (by omega)
theorem own_mod_hi (p n : Int32) (h : 0 < n.toInt) (k : Int) (hk : n.toInt = k) : ((p &&& (2147483647 : Int32)) % n).toInt < k := by
  rw [Jvm.Kit.i32_rem_nonneg (own_pos p), ← hk]; exact Int.emod_lt_of_pos _ h
theorem own_lt3 (z : Int32) (h1 : 0 ≤ z.toInt) (h2 : z.toInt < 3) : z = (0 : Int32) ∨ z = (1 : Int32) ∨ z = (2 : Int32) := by
  have e0 : (0 : Int32).toInt = 0 := by decide +kernel
  have e1 : (1 : Int32).toInt = 1 := by decide +kernel
  have e2 : (2 : Int32).toInt = 2 := by decide +kernel
  simp only [← Int32.toInt_inj]
  omega
theorem own_mod3 (p : Int32) : ((p &&& (2147483647 : Int32)) % (3 : Int32)) = (0 : Int32) ∨ ((p &&& (2147483647 : Int32)) % (3 : Int32)) = (1 : Int32) ∨ ((p &&& (2147483647 : Int32)) % (3 : Int32)) = (2 : Int32) :=
  own_lt3 _ (own_mod_lo p 3 (by decide +kernel)) (own_mod_hi p 3 (by decide +kernel) 3 (by decide +kernel))
theorem own_lt2 (z : Int32) (h1 : 0 ≤ z.toInt) (h2 : z.toInt < 2) : z = (0 : Int32) ∨ z = (1 : Int32) := by
  have e0 : (0 : Int32).toInt = 0 := by decide +kernel
  have e1 : (1 : Int32).toInt = 1 := by decide +kernel
  simp only [← Int32.toInt_inj]
  omega
theorem own_and2 (p : Int32) : (p &&& (1 : Int32)) = (0 : Int32) ∨ (p &&& (1 : Int32)) = (1 : Int32) := by
  have e := Jvm.Kit.i32_mask p 1 (k := 1) (by decide) (by decide)
  exact own_lt2 _ (by rw [e]; omega) (by rw [e]; omega)
theorem own_len {args : Array Value} {s : State} {t : Term} {a : Addr} {cl : Cell} {ty : FieldType} {z : Int32} (h : (Term.length t).eval args s none [] s = some (.int z)) (ht : t.eval args s none [] s = some (.ref a)) (A : Arr s s.heap a cl ty) : cl.slots.size < 2 ^ 31 ∧ cl.slots.size.toInt32 = z := by
  have q : s.arrayAt? a = some cl := A.fin (Vm.Alike.refl _)
  by_cases hl : cl.slots.size < 2 ^ 31
  · exact ⟨hl, Value.int.inj (Option.some.inj ((len_f ht q hl).symm.trans h))⟩
  · simp [Term.eval, ht, q, hl] at h
theorem rm0 (l : Launch) (Z : State) (a0 : Array Value) (hw : HW a0 Z) (ws : List Jvm.Cond) (h0 : Heap) (n0 : Nat) (Z0 : n0 ≤ h0.size) (s_WIN : Nat) (s_LOSS : Nat) (s_DRAW : Nat) (s_SW : Nat) (s_EM : Nat) (k901 : ClassId) (k902 : ClassId) (p0 : Int32) (v0_ : Int32) (p1 : Int32) (v1_ : Int32) (p2 : Int32) (v2_ : Int32) (p3 : Int32) (v3_ : Int32) (p4 : Int32) (P : St0 Z h0 n0 s_WIN s_LOSS s_DRAW s_SW s_EM k901 k902 p0 v0_ p1 v1_ p2 v2_ p3 v3_) :
    MC l Z x code maxLocals ret ws room_1 #[(.int p0), (.int p1), (.int p2), (.int p3), (.int p4)] h0 (QL n0) := by
  rcases own_and2 p4 with h4 | h4
  · exact law_0 l Z a0 hw ws h0 n0 Z0 s_WIN s_LOSS s_DRAW s_SW s_EM k901 k902 p0 v0_ p1 v1_ p2 v2_ p3 v3_ p4 h4 P
  · exact law_1 l Z a0 hw ws h0 n0 Z0 s_WIN s_LOSS s_DRAW s_SW s_EM k901 k902 p0 v0_ p1 v1_ p2 v2_ p3 v3_ p4 h4 P
theorem comes_1 {Post : Tables → Env → Array Value → State → Outcome → State → Prop} (hpost : ∀ tb e args s v u, (limb_1_1.after args s (.returned v) u = true ∧ limb_1_2.after args s (.returned v) u = true ∧ True) → FrameEnd s (.returned v) u (Jvm.fieldLocs frame_1_writes args s ++ Jvm.arrayLocs frame_1_arrays args s ++ Jvm.staticLocs frame_1_statics s) 32 192 → Post tb e args s (.returned v) u) :
    ArmFor flags0 classFile x code maxLocals ret World_1 tables_1 room_1 Calls_1 rest_1 Pre_1 Post := by
  intro l hfl _ _ p e ha hc hk s m args below hf hA hF happ hP
  obtain ⟨hcalls, hrest, hpre⟩ := hP
  obtain ⟨-, -, -, hnamed, -, -, -, hat⟩ := (Spec.applies_iff hf).mp happ
  obtain ⟨hg, hn⟩ := and_e (Cond.before_iff.mp (show (Jvm.Cond.and given_1 narrow_1).before args s = true from hpre))
  obtain ⟨g0, gr0⟩ := and_e hg
  obtain ⟨ga0, gr1⟩ := and_e gr0
  obtain ⟨ga1, gr2⟩ := and_e gr1
  obtain ⟨ga2, gr3⟩ := and_e gr2
  obtain ⟨ga3, gr4⟩ := and_e gr3
  have ga4 := gr4
  obtain ⟨w0_, w1_, w2_, w3_, w4_, rfl⟩ : ∃ w0_ w1_ w2_ w3_ w4_ : Value, args = #[w0_, w1_, w2_, w3_, w4_] := by
    have hs : args.size = 5 := by simpa [Cond.value, given_1] using g0
    obtain ⟨L⟩ := args
    match L, hs with
    | [w0_, w1_, w2_, w3_, w4_], _ => exact ⟨w0_, w1_, w2_, w3_, w4_, rfl⟩
  have hw := fun d (hd : d ∈ tables_1) => atoms_spec (ws := Jvm.Cond.code x code maxLocals ret :: tables_1) hat d (List.mem_cons_of_mem _ hd)
  obtain ⟨p0, ei0⟩ := is_v ga0
  obtain rfl : w0_ = (.int p0) := Option.some.inj ei0
  obtain ⟨p1, ei1⟩ := is_v ga1
  obtain rfl : w1_ = (.int p1) := Option.some.inj ei1
  obtain ⟨p2, ei2⟩ := is_v ga2
  obtain rfl : w2_ = (.int p2) := Option.some.inj ei2
  obtain ⟨p3, ei3⟩ := is_v ga3
  obtain rfl : w3_ = (.int p3) := Option.some.inj ei3
  obtain ⟨p4, ei4⟩ := is_v ga4
  obtain rfl : w4_ = (.int p4) := Option.some.inj ei4
  obtain ⟨hnl, hnr⟩ := and_e hn
  have na0 := hnl
  obtain ⟨hnrl, hnrr⟩ := and_e hnr
  have na1 := hnrl
  obtain ⟨hnrrl, hnrrr⟩ := and_e hnrr
  have na2 := hnrrl
  obtain ⟨hnrrrl, hnrrrr⟩ := and_e hnrrr
  have na3 := hnrrrl
  obtain ⟨hnrrrrl, hnrrrrr⟩ := and_e hnrrrr
  have na4 := hnrrrrl
  obtain ⟨hnrrrrrl, hnrrrrrr⟩ := and_e hnrrrrr
  have na5 := hnrrrrrl
  obtain ⟨hnrrrrrrl, hnrrrrrrr⟩ := and_e hnrrrrrr
  have na6 := hnrrrrrrl
  obtain ⟨hnrrrrrrrl, hnrrrrrrrr⟩ := and_e hnrrrrrrr
  have na7 := hnrrrrrrrl
  obtain ⟨hnrrrrrrrrl, hnrrrrrrrrr⟩ := and_e hnrrrrrrrr
  have na8 := hnrrrrrrrrl
  obtain ⟨hnrrrrrrrrrl, hnrrrrrrrrrr⟩ := and_e hnrrrrrrrrr
  have na9 := hnrrrrrrrrrl
  have na10 := hnrrrrrrrrrr
  obtain ⟨hsets, hown0⟩ := atoms_of _ (rest_1_c_eq ▸ (show rest_1_c.before _ s = true from hrest))
  have hfit : Fit s := fun {y c} hc i hi => by
    obtain ⟨ha, rfl⟩ := Array.getElem?_eq_some_iff.mp hc
    have q := List.all_eq_true.mp ((Array.all_eq_true_iff_forall_mem.mp hF) _ (Array.getElem_mem ha)) i (List.mem_range.mpr hi)
    simpa [Array.getElem?_eq_getElem hi] using q
  obtain ⟨s_WIN, evWIN⟩ := exa_v na0
  have E_s_WIN := Exa.start evWIN na0
  have S_WIN := Sta.start evWIN (Or.inr ⟨(w49 hw), (w50 hw)⟩)
  have od_s_WIN := own_ltE E_s_WIN
  obtain ⟨s_DRAW, evDRAW⟩ := exa_v na1
  have E_s_DRAW := Exa.start evDRAW na1
  have S_DRAW := Sta.start evDRAW (Or.inr ⟨(w49 hw), (w83 hw)⟩)
  have od_s_DRAW := own_ltE E_s_DRAW
  obtain ⟨s_LOSS, evLOSS⟩ := exa_v na2
  have E_s_LOSS := Exa.start evLOSS na2
  have S_LOSS := Sta.start evLOSS (Or.inr ⟨(w49 hw), (w85 hw)⟩)
  have od_s_LOSS := own_ltE E_s_LOSS
  obtain ⟨s_SW, evSW⟩ := arr_v na3
  obtain ⟨cSW, ASW⟩ := Arr.start evSW na3
  have S__SwitchMap_com_example_g := Sta.start evSW (Or.inr ⟨(w101 hw), (w102 hw)⟩)
  obtain ⟨zSW, qSW⟩ := own_len (own_eqI na4) evSW ASW
  have F_s_WIN_ordinal := Fld.start ((fld_at evWIN).symm.trans (own_eqI na5))
  obtain ⟨-, elSW0⟩ := elem_in (own_eqI na6) evSW (Term.int_eval (0)) ASW.1
  have F_s_DRAW_ordinal := Fld.start ((fld_at evDRAW).symm.trans (own_eqI na7))
  obtain ⟨-, elSW2⟩ := elem_in (own_eqI na8) evSW (Term.int_eval (2)) ASW.1
  have F_s_LOSS_ordinal := Fld.start ((fld_at evLOSS).symm.trans (own_eqI na9))
  obtain ⟨-, elSW1⟩ := elem_in (own_eqI na10) evSW (Term.int_eval (1)) ASW.1
  have V_s_SW : Arv s s.heap s_SW cSW.cls .int (3 : Int32) [(.int (1 : Int32)), (.int (3 : Int32)), (.int (2 : Int32))] (.int (0 : Int32)) := Arv.start hfit ASW zSW qSW (by decide) (by decide) ⟨elSW0, elSW1, elSW2, trivial⟩
  have od_s_SW := own_ltV V_s_SW
  obtain ⟨s_EM, evEM⟩ := arr_v (Cond.before_iff.mp (hsets _ (List.mem_of_getElem? (i := 6) rfl)))
  obtain ⟨cEM, AEM⟩ := Arr.start evEM (Cond.before_iff.mp (hsets _ (List.mem_of_getElem? (i := 6) rfl)))
  have S_DEFAULTCAPACITY_EMPTY_EL := Sta.start evEM (Or.inr ⟨(w23 hw), (hsets _ (List.mem_of_getElem? (i := 2) rfl))⟩)
  obtain ⟨zEM, qEM⟩ := own_len (own_eqI (Cond.before_iff.mp (hsets _ (List.mem_of_getElem? (i := 8) rfl)))) evEM AEM
  have V_s_EM : Arv s s.heap s_EM cEM.cls (.object "java/lang/Object") (0 : Int32) [] .null := Arv.start hfit AEM zEM qEM (by decide) (by decide) trivial
  have od_s_EM := own_ltV V_s_EM
  have hv0 := own_mod3 p0
  have hv1 := own_mod3 p1
  have hv2 := own_mod3 p2
  have hv3 := own_mod3 p3
  have PP : St0 s s.heap s.heap.size s_WIN s_LOSS s_DRAW s_SW s_EM cSW.cls cEM.cls p0 ((p0 &&& (2147483647 : Int32)) % (3 : Int32)) p1 ((p1 &&& (2147483647 : Int32)) % (3 : Int32)) p2 ((p2 &&& (2147483647 : Int32)) % (3 : Int32)) p3 ((p3 &&& (2147483647 : Int32)) % (3 : Int32)) := ⟨S_WIN, S_LOSS, S_DRAW, S__SwitchMap_com_example_g, S_DEFAULTCAPACITY_EMPTY_EL, E_s_WIN, F_s_WIN_ordinal, E_s_LOSS, F_s_LOSS_ordinal, E_s_DRAW, F_s_DRAW_ordinal, V_s_SW, V_s_EM, od_s_WIN, od_s_LOSS, od_s_DRAW, od_s_SW, od_s_EM, rfl, hv0, rfl, hv1, rfl, hv2, rfl, hv3⟩
  obtain ⟨n, o, h1, h2, h3, _, L, rfl, ⟨rfl, N⟩, hq⟩ := rm0 l s _ hw tables_1 s.heap s.heap.size (Nat.le_refl _) s_WIN s_LOSS s_DRAW s_SW s_EM cSW.cls cEM.cls p0 ((p0 &&& (2147483647 : Int32)) % (3 : Int32)) p1 ((p1 &&& (2147483647 : Int32)) % (3 : Int32)) p2 ((p2 &&& (2147483647 : Int32)) % (3 : Int32)) p3 ((p3 &&& (2147483647 : Int32)) % (3 : Int32)) p4 PP p e ha hc hk s m _ below hf ((Spec.applies_iff_loose hf).mp happ).1 ⟨rfl, State.Warmed39.refl s, rfl⟩ trivial
  refine ⟨n, _, h1, h2, h3, hpost _ _ _ _ _ _ ⟨Cond.after_iff.mpr rfl, Cond.after_iff.mpr (eq_i res_at (Term.int_eval (1)) rfl), trivial⟩ ⟨hq.1, hq.2.1, (hq.2.2.sift fun y hy => Or.inr (N y hy)).mono (by decide) (by decide)⟩⟩
theorem main_1_1 : Claimed_1_1 := comes_1 fun _ _ _ _ _ _ h hF => ⟨h.1, hF⟩
theorem main_1_2 : Claimed_1_2 := comes_1 fun _ _ _ _ _ _ h hF => ⟨h.2.1, hF⟩
end Jvm.Pilot.@@N@@
namespace Jvm.Pilot.@@N@@
open Jvm Jvm.ClassFile Sem Op Lib Jvm.Free Jvm.Stand Jvm.Pilot.@@N@@.Jvm.D
/-! MADE BY PROGRAM (witnessworld.py) out of the Statement's table words and the real class files: 26 classes; the members and pool entries that the words name. The judged class is class 1, her method 4. -/
namespace start1
open Jvm.ClassFile
def u (s : String) : CpInfo := .utf8 (stringToUtf16 s)
/-- a pool by its gaps: so many unusable entries, then the entry; so many at the end -/
def gap : Nat → List CpInfo → List CpInfo
  | 0, r => r
  | n + 1, r => .unusable :: gap n r
def poolList (es : List (Nat × CpInfo)) (last : Nat) : List CpInfo := es.foldr (fun e r => gap e.1 (e.2 :: r)) (gap last [])
def pool (es : List (Nat × CpInfo)) (last : Nat) : Array CpInfo := ⟨poolList es last⟩
def fileOf (pool : Array CpInfo) (this : Nat) (attrs : Array Attribute := #[]) (ms : Array MethodInfo := #[]) (fl : Nat := 33) (sup : Nat := 0) (ifs : Array Nat := #[]) (fds : Array FieldInfo := #[]) : ClassFile where
  minorVersion := 0
  majorVersion := 65
  constantPool := pool
  accessFlags := fl
  thisClass := this
  superClass := sup
  interfaces := ifs
  fields := fds
  methods := ms
  attributes := attrs
def plain (name : String) (sup : Option ClassId) : Class where
  name := name
  kind := .ordinary
  loader := none
  accessFlags := 33
  super := sup
  interfaces := #[]
  cf := none
  fields := #[]
  methods := #[]
  instanceTypes := #[]
  staticTypes := #[]
  resolved := #[]
  callSites := []
  init := .initialized
  statics := none
  mirror := none

def pool0 : Array CpInfo := pool [(5, u "<init>"), (0, u "()V"), (1, .class_ 10), (1, u "java/lang/Object")] 113

def k0c0 : Code := { maxStack := 0, maxLocals := 1, code := object_method_1_code, exceptionTable := #[], attributes := #[] }
def k0m0 : Method := { name := "<init>", desc := "()V", sig := { parameters := [], returnType := none }, accessFlags := 1, code := some k0c0 }
/-- java/lang/Object -/
def k0 : Class := { plain "java/lang/Object" none with
  accessFlags := 33
  interfaces := #[]
  cf := some (fileOf pool0 8 #[] #[{ accessFlags := 1, nameIndex := 5, descriptorIndex := 6, attributes := #[] }] 33 0 #[] #[])
  fields := #[]
  methods := #[k0m0]
  instanceTypes := #[]
  staticTypes := #[]
  resolved := Array.replicate 124 none
  statics := none }

def pool1 : Array CpInfo := pool [(2, .class_ 4), (0, .nameAndType 5 6), (0, u "java/lang/Object"), (0, u "<init>"), (0, u "()V"), (0, .integer 2147483647), (0, .fieldref 9 10), (0, .class_ 11), (0, .nameAndType 12 13), (0, u "com/example/gamesmith/gamesmith/game/Result"), (0, u "WIN"), (0, u "Lcom/example/gamesmith/gamesmith/game/Result;"), (0, .fieldref 9 15), (0, .nameAndType 16 13), (0, u "LOSS"), (0, .fieldref 9 18), (0, .nameAndType 19 13), (0, u "DRAW"), (0, .methodref 21 22), (0, .class_ 23), (0, .nameAndType 24 25), (0, u "com/example/gamesmith/gamesmith/arena/TallyAddPinLaw"), (0, u "code"), (0, u "(I)I"), (0, .class_ 27), (0, u "com/example/gamesmith/gamesmith/arena/Tally"), (0, .methodref 26 29), (0, .nameAndType 5 30), (0, u "(I)V"), (0, .class_ 32), (0, u "java/util/ArrayList"), (0, .methodref 31 3), (0, .methodref 21 35), (0, .nameAndType 36 37), (0, u "res"), (0, u "(I)Lcom/example/gamesmith/gamesmith/game/Result;"), (0, .methodref 31 39), (0, .nameAndType 40 41), (0, u "add"), (0, u "(Ljava/lang/Object;)Z"), (0, .methodref 26 43), (0, .nameAndType 44 45), (0, u "record"), (0, u "(Ljava/util/List;)V"), (0, .methodref 26 47), (0, .nameAndType 40 48), (0, u "(Lcom/example/gamesmith/gamesmith/arena/Tally;)V"), (0, .methodref 21 50), (0, .nameAndType 51 52), (0, u "is"), (0, u "(II)I"), (0, .methodref 26 54), (0, .nameAndType 55 56), (0, u "matches"), (0, u "()I"), (0, .methodref 26 58), (0, .nameAndType 59 56), (0, u "drawnMatches"), (0, .methodref 26 61), (0, .nameAndType 62 25), (0, u "wins"), (0, .methodref 26 64), (0, .nameAndType 65 25), (0, u "losses"), (0, .methodref 26 67), (0, .nameAndType 68 25), (0, u "draws"), (3, u "law"), (0, u "(IIIII)Z")] 2

def k1m0 : Method := { name := "<init>", desc := "()V", sig := { parameters := [], returnType := none }, accessFlags := 1, code := none }
def k1c1 : Code := { maxStack := 2, maxLocals := 1, code := method_2_code, exceptionTable := #[], attributes := #[] }
def k1m1 : Method := { name := "code", desc := "(I)I", sig := { parameters := [.int], returnType := some .int }, accessFlags := 10, code := some k1c1 }
def k1c2 : Code := { maxStack := 2, maxLocals := 1, code := method_3_code, exceptionTable := #[], attributes := #[] }
def k1m2 : Method := { name := "res", desc := "(I)Lcom/example/gamesmith/gamesmith/game/Result;", sig := { parameters := [.int], returnType := some (.object "com/example/gamesmith/gamesmith/game/Result") }, accessFlags := 10, code := some k1c2 }
def k1c3 : Code := { maxStack := 2, maxLocals := 2, code := method_4_code, exceptionTable := #[], attributes := #[] }
def k1m3 : Method := { name := "is", desc := "(II)I", sig := { parameters := [.int, .int], returnType := some .int }, accessFlags := 10, code := some k1c3 }
def k1c4 : Code := { maxStack := 5, maxLocals := 17, code := code, exceptionTable := #[], attributes := #[] }
def k1m4 : Method := { name := "law", desc := "(IIIII)Z", sig := { parameters := [.int, .int, .int, .int, .int], returnType := some .boolean }, accessFlags := 9, code := some k1c4 }
/-- com/example/gamesmith/gamesmith/arena/TallyAddPinLaw -/
def k1 : Class := { plain "com/example/gamesmith/gamesmith/arena/TallyAddPinLaw" (some 0) with
  accessFlags := 49
  interfaces := #[]
  cf := some (fileOf pool1 21 #[] #[{ accessFlags := 1, nameIndex := 5, descriptorIndex := 6, attributes := #[] }, { accessFlags := 10, nameIndex := 24, descriptorIndex := 25, attributes := #[] }, { accessFlags := 10, nameIndex := 36, descriptorIndex := 37, attributes := #[] }, { accessFlags := 10, nameIndex := 51, descriptorIndex := 52, attributes := #[] }, { accessFlags := 9, nameIndex := 72, descriptorIndex := 73, attributes := #[] }] 49 2 #[] #[])
  fields := #[]
  methods := #[k1m0, k1m1, k1m2, k1m3, k1m4]
  instanceTypes := #[]
  staticTypes := #[]
  resolved := Array.replicate 76 none
  statics := none }

def pool2 : Array CpInfo := pool [(1, .methodref 2 3), (0, .class_ 4), (0, .nameAndType 5 6), (0, u "java/lang/Object"), (0, u "<init>"), (0, u "()V"), (7, .fieldref 15 16), (0, .class_ 17), (0, .nameAndType 18 19), (0, u "com/example/gamesmith/gamesmith/arena/Tally"), (0, u "wins"), (0, u "[I"), (0, .fieldref 15 21), (0, .nameAndType 22 19), (0, u "draws"), (0, .fieldref 15 24), (0, .nameAndType 25 19), (0, u "losses"), (0, .interfaceMethodref 27 28), (0, .class_ 29), (0, .nameAndType 30 31), (0, u "java/util/List"), (0, u "size"), (0, u "()I"), (4, .fieldref 37 38), (0, .class_ 39), (0, .nameAndType 40 19), (0, u "com/example/gamesmith/gamesmith/arena/Tally$1"), (0, u "$SwitchMap$com$example$gamesmith$gamesmith$game$Result"), (0, .interfaceMethodref 27 42), (0, .nameAndType 43 44), (0, u "get"), (0, u "(I)Ljava/lang/Object;"), (0, .class_ 46), (0, u "com/example/gamesmith/gamesmith/game/Result"), (0, .methodref 45 48), (0, .nameAndType 49 31), (0, u "ordinal"), (0, .fieldref 15 51), (0, .nameAndType 52 53), (0, u "drawnMatches"), (0, u "I"), (0, .fieldref 15 55), (0, .nameAndType 56 53), (0, u "matches"), (0, u "(I)V"), (3, u "record"), (0, u "(Ljava/util/List;)V"), (2, u "add"), (0, u "(Lcom/example/gamesmith/gamesmith/arena/Tally;)V"), (0, u "(I)I")] 18

def k2c0 : Code := { maxStack := 3, maxLocals := 2, code := prog_6_method_1_code, exceptionTable := #[], attributes := #[] }
def k2m0 : Method := { name := "<init>", desc := "(I)V", sig := { parameters := [.int], returnType := none }, accessFlags := 1, code := some k2c0 }
def k2c1 : Code := { maxStack := 4, maxLocals := 4, code := prog_6_method_2_code, exceptionTable := #[], attributes := #[] }
def k2m1 : Method := { name := "record", desc := "(Ljava/util/List;)V", sig := { parameters := [(.object "java/util/List")], returnType := none }, accessFlags := 1, code := some k2c1 }
def k2c2 : Code := { maxStack := 5, maxLocals := 3, code := prog_6_method_3_code, exceptionTable := #[], attributes := #[] }
def k2m2 : Method := { name := "add", desc := "(Lcom/example/gamesmith/gamesmith/arena/Tally;)V", sig := { parameters := [(.object "com/example/gamesmith/gamesmith/arena/Tally")], returnType := none }, accessFlags := 0, code := some k2c2 }
def k2c3 : Code := { maxStack := 1, maxLocals := 1, code := prog_6_method_4_code, exceptionTable := #[], attributes := #[] }
def k2m3 : Method := { name := "matches", desc := "()I", sig := { parameters := [], returnType := some .int }, accessFlags := 1, code := some k2c3 }
def k2c4 : Code := { maxStack := 1, maxLocals := 1, code := prog_6_method_5_code, exceptionTable := #[], attributes := #[] }
def k2m4 : Method := { name := "drawnMatches", desc := "()I", sig := { parameters := [], returnType := some .int }, accessFlags := 1, code := some k2c4 }
def k2c5 : Code := { maxStack := 2, maxLocals := 2, code := prog_6_method_6_code, exceptionTable := #[], attributes := #[] }
def k2m5 : Method := { name := "wins", desc := "(I)I", sig := { parameters := [.int], returnType := some .int }, accessFlags := 1, code := some k2c5 }
def k2c6 : Code := { maxStack := 2, maxLocals := 2, code := prog_6_method_7_code, exceptionTable := #[], attributes := #[] }
def k2m6 : Method := { name := "draws", desc := "(I)I", sig := { parameters := [.int], returnType := some .int }, accessFlags := 1, code := some k2c6 }
def k2c7 : Code := { maxStack := 2, maxLocals := 2, code := prog_6_method_8_code, exceptionTable := #[], attributes := #[] }
def k2m7 : Method := { name := "losses", desc := "(I)I", sig := { parameters := [.int], returnType := some .int }, accessFlags := 1, code := some k2c7 }
/-- com/example/gamesmith/gamesmith/arena/Tally -/
def k2 : Class := { plain "com/example/gamesmith/gamesmith/arena/Tally" (some 0) with
  accessFlags := 49
  interfaces := #[]
  cf := some (fileOf pool2 15 #[.nestMembers #[37]] #[{ accessFlags := 1, nameIndex := 5, descriptorIndex := 57, attributes := #[] }, { accessFlags := 1, nameIndex := 61, descriptorIndex := 62, attributes := #[] }, { accessFlags := 0, nameIndex := 65, descriptorIndex := 66, attributes := #[] }, { accessFlags := 1, nameIndex := 56, descriptorIndex := 31, attributes := #[] }, { accessFlags := 1, nameIndex := 52, descriptorIndex := 31, attributes := #[] }, { accessFlags := 1, nameIndex := 18, descriptorIndex := 67, attributes := #[] }, { accessFlags := 1, nameIndex := 22, descriptorIndex := 67, attributes := #[] }, { accessFlags := 1, nameIndex := 25, descriptorIndex := 67, attributes := #[] }] 49 2 #[] #[{ accessFlags := 18, nameIndex := 18, descriptorIndex := 19, attributes := #[] }, { accessFlags := 18, nameIndex := 22, descriptorIndex := 19, attributes := #[] }, { accessFlags := 18, nameIndex := 25, descriptorIndex := 19, attributes := #[] }, { accessFlags := 2, nameIndex := 56, descriptorIndex := 53, attributes := #[] }, { accessFlags := 2, nameIndex := 52, descriptorIndex := 53, attributes := #[] }])
  fields := #[{ name := "wins", type := (.array .int), accessFlags := 18, slot := 0, constantValue := 0 }, { name := "draws", type := (.array .int), accessFlags := 18, slot := 1, constantValue := 0 }, { name := "losses", type := (.array .int), accessFlags := 18, slot := 2, constantValue := 0 }, { name := "matches", type := .int, accessFlags := 2, slot := 3, constantValue := 0 }, { name := "drawnMatches", type := .int, accessFlags := 2, slot := 4, constantValue := 0 }]
  methods := #[k2m0, k2m1, k2m2, k2m3, k2m4, k2m5, k2m6, k2m7]
  instanceTypes := #[(.array .int), (.array .int), (.array .int), .int, .int]
  staticTypes := #[]
  resolved := Array.replicate 86 none
  statics := none }

def pool3 : Array CpInfo := pool [(8, .class_ 10), (1, u "java/lang/Iterable"), (24, .class_ 36), (0, u "java/lang/Object")] 25

/-- java/lang/Iterable -/
def k3 : Class := { plain "java/lang/Iterable" (some 0) with
  accessFlags := 1537
  interfaces := #[]
  cf := some (fileOf pool3 8 #[] #[] 1537 35 #[] #[])
  fields := #[]
  methods := #[]
  instanceTypes := #[]
  staticTypes := #[]
  resolved := Array.replicate 62 none
  statics := none }

def pool4 : Array CpInfo := pool [(10, .class_ 12), (1, u "java/util/Collection"), (47, .class_ 61), (0, u "java/lang/Object"), (0, .class_ 63), (0, u "java/lang/Iterable")] 51

/-- java/util/Collection -/
def k4 : Class := { plain "java/util/Collection" (some 0) with
  accessFlags := 1537
  interfaces := #[3]
  cf := some (fileOf pool4 10 #[] #[] 1537 60 #[62] #[])
  fields := #[]
  methods := #[]
  instanceTypes := #[]
  staticTypes := #[]
  resolved := Array.replicate 115 none
  statics := none }

def pool5 : Array CpInfo := pool [(1, .methodref 2 3), (0, .class_ 4), (0, .nameAndType 5 6), (0, u "java/lang/Object"), (0, u "<init>"), (0, u "()V"), (1, .class_ 10), (1, u "java/util/AbstractCollection"), (66, .class_ 78), (0, u "java/util/Collection")] 81

def k5c0 : Code := { maxStack := 1, maxLocals := 1, code := jdk_22_method_1_code, exceptionTable := #[], attributes := #[] }
def k5m0 : Method := { name := "<init>", desc := "()V", sig := { parameters := [], returnType := none }, accessFlags := 4, code := some k5c0 }
/-- java/util/AbstractCollection -/
def k5 : Class := { plain "java/util/AbstractCollection" (some 0) with
  accessFlags := 1057
  interfaces := #[4]
  cf := some (fileOf pool5 8 #[] #[{ accessFlags := 4, nameIndex := 5, descriptorIndex := 6, attributes := #[] }] 1057 2 #[77] #[])
  fields := #[]
  methods := #[k5m0]
  instanceTypes := #[]
  staticTypes := #[]
  resolved := Array.replicate 160 none
  statics := none }

def pool6 : Array CpInfo := pool [(8, .class_ 10), (1, u "java/util/SequencedCollection"), (15, .class_ 27), (0, u "java/lang/Object"), (0, .class_ 29), (0, u "java/util/Collection")] 27

/-- java/util/SequencedCollection -/
def k6 : Class := { plain "java/util/SequencedCollection" (some 0) with
  accessFlags := 1537
  interfaces := #[4]
  cf := some (fileOf pool6 8 #[] #[] 1537 26 #[28] #[])
  fields := #[]
  methods := #[]
  instanceTypes := #[]
  staticTypes := #[]
  resolved := Array.replicate 57 none
  statics := none }

def pool7 : Array CpInfo := pool [(8, .class_ 10), (1, u "java/util/List"), (64, u "get"), (0, u "(I)Ljava/lang/Object;"), (2, u "size"), (0, u "()I"), (22, .class_ 104), (0, u "java/lang/Object"), (15, .class_ 121), (0, u "java/util/SequencedCollection")] 129

def k7m0 : Method := { name := "size", desc := "()I", sig := { parameters := [], returnType := some .int }, accessFlags := 1025, code := none }
def k7m1 : Method := { name := "get", desc := "(I)Ljava/lang/Object;", sig := { parameters := [.int], returnType := some (.object "java/lang/Object") }, accessFlags := 1025, code := none }
/-- java/util/List -/
def k7 : Class := { plain "java/util/List" (some 0) with
  accessFlags := 1537
  interfaces := #[6]
  cf := some (fileOf pool7 8 #[] #[{ accessFlags := 1025, nameIndex := 79, descriptorIndex := 80, attributes := #[] }, { accessFlags := 1025, nameIndex := 75, descriptorIndex := 76, attributes := #[] }] 1537 103 #[120] #[])
  fields := #[]
  methods := #[k7m0, k7m1]
  instanceTypes := #[]
  staticTypes := #[]
  resolved := Array.replicate 251 none
  statics := none }

def pool8 : Array CpInfo := pool [(1, .methodref 2 3), (0, .class_ 4), (0, .nameAndType 5 6), (0, u "java/util/AbstractCollection"), (0, u "<init>"), (0, u "()V"), (0, .fieldref 8 9), (0, .class_ 10), (0, .nameAndType 11 12), (0, u "java/util/AbstractList"), (0, u "modCount"), (0, u "I"), (64, .class_ 78), (0, u "java/util/AbstractList$Itr"), (3, .class_ 83), (0, u "java/util/AbstractList$ListItr"), (9, .class_ 94), (0, u "java/util/AbstractList$RandomAccessSubList"), (3, .class_ 99), (0, u "java/util/AbstractList$SubList"), (33, .class_ 134), (0, u "java/util/List"), (73, .class_ 209), (0, u "java/util/AbstractList$SubList$1"), (0, .class_ 211), (0, u "java/util/AbstractList$RandomAccessSpliterator")] 6

def k8c0 : Code := { maxStack := 2, maxLocals := 1, code := jdk_39_method_1_code, exceptionTable := #[], attributes := #[] }
def k8m0 : Method := { name := "<init>", desc := "()V", sig := { parameters := [], returnType := none }, accessFlags := 4, code := some k8c0 }
/-- java/util/AbstractList -/
def k8 : Class := { plain "java/util/AbstractList" (some 5) with
  accessFlags := 1057
  interfaces := #[7]
  cf := some (fileOf pool8 8 #[.nestMembers #[93, 98, 208, 210, 82, 77]] #[{ accessFlags := 4, nameIndex := 5, descriptorIndex := 6, attributes := #[] }] 1057 2 #[133] #[{ accessFlags := 132, nameIndex := 11, descriptorIndex := 12, attributes := #[] }])
  fields := #[{ name := "modCount", type := .int, accessFlags := 132, slot := 0, constantValue := 0 }]
  methods := #[k8m0]
  instanceTypes := #[.int]
  staticTypes := #[]
  resolved := Array.replicate 218 none
  statics := none }

def pool9 : Array CpInfo := pool [(1, .class_ 2), (0, u "java/util/RandomAccess"), (0, .class_ 4), (0, u "java/lang/Object")] 2

/-- java/util/RandomAccess -/
def k9 : Class := { plain "java/util/RandomAccess" (some 0) with
  accessFlags := 1537
  interfaces := #[]
  cf := some (fileOf pool9 1 #[] #[] 1537 3 #[] #[])
  fields := #[]
  methods := #[]
  instanceTypes := #[]
  staticTypes := #[]
  resolved := Array.replicate 7 none
  statics := none }

def pool10 : Array CpInfo := pool [(1, .class_ 2), (0, u "java/lang/Cloneable"), (0, .class_ 4), (0, u "java/lang/Object")] 2

/-- java/lang/Cloneable -/
def k10 : Class := { plain "java/lang/Cloneable" (some 0) with
  accessFlags := 1537
  interfaces := #[]
  cf := some (fileOf pool10 1 #[] #[] 1537 3 #[] #[])
  fields := #[]
  methods := #[]
  instanceTypes := #[]
  staticTypes := #[]
  resolved := Array.replicate 7 none
  statics := none }

def pool11 : Array CpInfo := pool [(1, .class_ 2), (0, u "java/io/Serializable"), (0, .class_ 4), (0, u "java/lang/Object")] 2

/-- java/io/Serializable -/
def k11 : Class := { plain "java/io/Serializable" (some 0) with
  accessFlags := 1537
  interfaces := #[]
  cf := some (fileOf pool11 1 #[] #[] 1537 3 #[] #[])
  fields := #[]
  methods := #[]
  instanceTypes := #[]
  staticTypes := #[]
  resolved := Array.replicate 7 none
  statics := none }

def pool12 : Array CpInfo := pool [(1, .methodref 2 3), (0, .class_ 4), (0, .nameAndType 5 6), (0, u "java/util/AbstractList"), (0, u "<init>"), (0, u "()V"), (0, .class_ 8), (0, u "java/lang/Object"), (0, .fieldref 10 11), (0, .class_ 12), (0, .nameAndType 13 14), (0, u "java/util/ArrayList"), (0, u "elementData"), (0, u "[Ljava/lang/Object;"), (2, u "EMPTY_ELEMENTDATA"), (21, .fieldref 10 40), (0, .nameAndType 41 14), (0, u "DEFAULTCAPACITY_EMPTY_ELEMENTDATA"), (5, u "()[Ljava/lang/Object;"), (0, .fieldref 10 49), (0, .nameAndType 50 51), (0, u "size"), (0, u "I"), (11, .fieldref 10 64), (0, .nameAndType 65 51), (0, u "modCount"), (3, .methodref 10 70), (0, .nameAndType 71 72), (0, u "grow"), (0, u "(I)[Ljava/lang/Object;"), (6, .methodref 80 81), (0, .class_ 82), (0, .nameAndType 83 84), (0, u "java/lang/Math"), (0, u "max"), (0, u "(II)I"), (11, u "(Ljava/lang/Object;)Z"), (21, .methodref 119 120), (0, .class_ 121), (0, .nameAndType 122 84), (0, u "java/util/Objects"), (0, u "checkIndex"), (0, .methodref 10 124), (0, .nameAndType 13 125), (0, u "(I)Ljava/lang/Object;"), (3, .methodref 10 130), (0, .nameAndType 71 47), (0, .methodref 10 132), (0, .nameAndType 133 134), (0, u "add"), (0, u "(Ljava/lang/Object;[Ljava/lang/Object;I)V"), (13, .class_ 149), (0, u "java/util/List"), (36, u "()I"), (75, .class_ 263), (0, u "java/util/ArrayList$ListItr"), (3, .class_ 268), (0, u "java/util/ArrayList$Itr"), (7, .class_ 277), (0, u "java/util/ArrayList$SubList"), (12, .class_ 291), (0, u "java/util/ArrayList$ArrayListSpliterator"), (37, .class_ 330), (0, u "java/util/RandomAccess"), (0, .class_ 332), (0, u "java/lang/Cloneable"), (0, .class_ 334), (0, u "java/io/Serializable"), (0, u "serialVersionUID"), (0, u "J"), (3, u "DEFAULT_CAPACITY"), (40, u "get"), (118, .class_ 501), (0, u "java/util/ArrayList$SubList$2"), (0, .class_ 503), (0, u "java/util/ArrayList$SubList$1")] 5

def k12c0 : Code := { maxStack := 2, maxLocals := 1, code := jdk_38_method_2_code, exceptionTable := #[], attributes := #[] }
def k12m0 : Method := { name := "<init>", desc := "()V", sig := { parameters := [], returnType := none }, accessFlags := 1, code := some k12c0 }
def k12c1 : Code := { maxStack := 4, maxLocals := 4, code := jdk_38_method_6_code, exceptionTable := #[], attributes := #[] }
def k12m1 : Method := { name := "grow", desc := "(I)[Ljava/lang/Object;", sig := { parameters := [.int], returnType := some (.array (.object "java/lang/Object")) }, accessFlags := 2, code := some k12c1 }
def k12c2 : Code := { maxStack := 3, maxLocals := 1, code := jdk_38_method_7_code, exceptionTable := #[], attributes := #[] }
def k12m2 : Method := { name := "grow", desc := "()[Ljava/lang/Object;", sig := { parameters := [], returnType := some (.array (.object "java/lang/Object")) }, accessFlags := 2, code := some k12c2 }
def k12c3 : Code := { maxStack := 1, maxLocals := 1, code := jdk_38_method_8_code, exceptionTable := #[], attributes := #[] }
def k12m3 : Method := { name := "size", desc := "()I", sig := { parameters := [], returnType := some .int }, accessFlags := 1, code := some k12c3 }
def k12c4 : Code := { maxStack := 2, maxLocals := 2, code := jdk_38_method_18_code, exceptionTable := #[], attributes := #[] }
def k12m4 : Method := { name := "elementData", desc := "(I)Ljava/lang/Object;", sig := { parameters := [.int], returnType := some (.object "java/lang/Object") }, accessFlags := 0, code := some k12c4 }
def k12c5 : Code := { maxStack := 2, maxLocals := 2, code := jdk_38_method_20_code, exceptionTable := #[], attributes := #[] }
def k12m5 : Method := { name := "get", desc := "(I)Ljava/lang/Object;", sig := { parameters := [.int], returnType := some (.object "java/lang/Object") }, accessFlags := 1, code := some k12c5 }
def k12c6 : Code := { maxStack := 3, maxLocals := 4, code := jdk_38_method_24_code, exceptionTable := #[], attributes := #[] }
def k12m6 : Method := { name := "add", desc := "(Ljava/lang/Object;[Ljava/lang/Object;I)V", sig := { parameters := [(.object "java/lang/Object"), (.array (.object "java/lang/Object")), .int], returnType := none }, accessFlags := 2, code := some k12c6 }
def k12c7 : Code := { maxStack := 4, maxLocals := 2, code := jdk_38_method_25_code, exceptionTable := #[], attributes := #[] }
def k12m7 : Method := { name := "add", desc := "(Ljava/lang/Object;)Z", sig := { parameters := [(.object "java/lang/Object")], returnType := some .boolean }, accessFlags := 1, code := some k12c7 }
/-- java/util/ArrayList -/
def k12 : Class := { plain "java/util/ArrayList" (some 8) with
  accessFlags := 33
  interfaces := #[7, 9, 10, 11]
  cf := some (fileOf pool12 10 #[.nestMembers #[290, 276, 500, 502, 262, 267]] #[{ accessFlags := 1, nameIndex := 5, descriptorIndex := 6, attributes := #[] }, { accessFlags := 2, nameIndex := 71, descriptorIndex := 72, attributes := #[] }, { accessFlags := 2, nameIndex := 71, descriptorIndex := 47, attributes := #[] }, { accessFlags := 1, nameIndex := 50, descriptorIndex := 186, attributes := #[] }, { accessFlags := 0, nameIndex := 13, descriptorIndex := 125, attributes := #[] }, { accessFlags := 1, nameIndex := 381, descriptorIndex := 125, attributes := #[] }, { accessFlags := 2, nameIndex := 133, descriptorIndex := 134, attributes := #[] }, { accessFlags := 1, nameIndex := 133, descriptorIndex := 96, attributes := #[] }] 33 2 #[148, 329, 331, 333] #[{ accessFlags := 26, nameIndex := 335, descriptorIndex := 336, attributes := #[] }, { accessFlags := 26, nameIndex := 340, descriptorIndex := 51, attributes := #[] }, { accessFlags := 26, nameIndex := 17, descriptorIndex := 14, attributes := #[] }, { accessFlags := 26, nameIndex := 41, descriptorIndex := 14, attributes := #[] }, { accessFlags := 128, nameIndex := 13, descriptorIndex := 14, attributes := #[] }, { accessFlags := 2, nameIndex := 50, descriptorIndex := 51, attributes := #[] }])
  fields := #[{ name := "serialVersionUID", type := .long, accessFlags := 26, slot := 0, constantValue := 0 }, { name := "DEFAULT_CAPACITY", type := .int, accessFlags := 26, slot := 1, constantValue := 0 }, { name := "EMPTY_ELEMENTDATA", type := (.array (.object "java/lang/Object")), accessFlags := 26, slot := 2, constantValue := 0 }, { name := "DEFAULTCAPACITY_EMPTY_ELEMENTDATA", type := (.array (.object "java/lang/Object")), accessFlags := 26, slot := 3, constantValue := 0 }, { name := "elementData", type := (.array (.object "java/lang/Object")), accessFlags := 128, slot := 1, constantValue := 0 }, { name := "size", type := .int, accessFlags := 2, slot := 2, constantValue := 0 }]
  methods := #[k12m0, k12m1, k12m2, k12m3, k12m4, k12m5, k12m6, k12m7]
  instanceTypes := #[.int, (.array (.object "java/lang/Object")), .int]
  staticTypes := #[.long, .int, (.array (.object "java/lang/Object")), (.array (.object "java/lang/Object"))]
  resolved := Array.replicate 509 none
  statics := some 0 }

def pool13 : Array CpInfo := pool [(1, .class_ 2), (0, u "java/lang/constant/Constable"), (0, .class_ 4), (0, u "java/lang/Object")] 6

/-- java/lang/constant/Constable -/
def k13 : Class := { plain "java/lang/constant/Constable" (some 0) with
  accessFlags := 1537
  interfaces := #[]
  cf := some (fileOf pool13 1 #[] #[] 1537 3 #[] #[])
  fields := #[]
  methods := #[]
  instanceTypes := #[]
  staticTypes := #[]
  resolved := Array.replicate 11 none
  statics := none }

def pool14 : Array CpInfo := pool [(1, .class_ 2), (0, u "java/lang/Comparable"), (0, .class_ 4), (0, u "java/lang/Object")] 7

/-- java/lang/Comparable -/
def k14 : Class := { plain "java/lang/Comparable" (some 0) with
  accessFlags := 1537
  interfaces := #[]
  cf := some (fileOf pool14 1 #[] #[] 1537 3 #[] #[])
  fields := #[]
  methods := #[]
  instanceTypes := #[]
  staticTypes := #[]
  resolved := Array.replicate 12 none
  statics := none }

def pool15 : Array CpInfo := pool [(2, .class_ 4), (1, u "java/lang/Enum"), (0, u "name"), (0, u "Ljava/lang/String;"), (0, .fieldref 2 8), (0, .nameAndType 9 10), (0, u "ordinal"), (0, u "I"), (1, .class_ 14), (1, u "java/lang/Object"), (4, u "hash"), (86, .class_ 108), (1, u "java/lang/Enum$EnumDesc"), (2, .class_ 112), (0, u "java/lang/constant/Constable"), (0, .class_ 114), (0, u "java/lang/Comparable"), (0, .class_ 116), (0, u "java/io/Serializable"), (9, u "()I")] 77

def k15c0 : Code := { maxStack := 1, maxLocals := 1, code := jdk_37_method_2_code, exceptionTable := #[], attributes := #[] }
def k15m0 : Method := { name := "ordinal", desc := "()I", sig := { parameters := [], returnType := some .int }, accessFlags := 17, code := some k15c0 }
/-- java/lang/Enum -/
def k15 : Class := { plain "java/lang/Enum" (some 0) with
  accessFlags := 1057
  interfaces := #[13, 14, 11]
  cf := some (fileOf pool15 2 #[.nestMembers #[106]] #[{ accessFlags := 17, nameIndex := 9, descriptorIndex := 126, attributes := #[] }] 1057 12 #[111, 113, 115] #[{ accessFlags := 18, nameIndex := 5, descriptorIndex := 6, attributes := #[] }, { accessFlags := 18, nameIndex := 9, descriptorIndex := 10, attributes := #[] }, { accessFlags := 2, nameIndex := 19, descriptorIndex := 10, attributes := #[] }])
  fields := #[{ name := "name", type := (.object "java/lang/String"), accessFlags := 18, slot := 0, constantValue := 0 }, { name := "ordinal", type := .int, accessFlags := 18, slot := 1, constantValue := 0 }, { name := "hash", type := .int, accessFlags := 2, slot := 2, constantValue := 0 }]
  methods := #[k15m0]
  instanceTypes := #[(.object "java/lang/String"), .int, .int]
  staticTypes := #[]
  resolved := Array.replicate 204 none
  statics := none }

def pool16 : Array CpInfo := pool [(1, .class_ 2), (0, u "com/example/gamesmith/gamesmith/game/Result"), (2, u "WIN"), (0, u "Lcom/example/gamesmith/gamesmith/game/Result;"), (2, u "LOSS"), (2, u "DRAW"), (2, u "$VALUES"), (0, u "[Lcom/example/gamesmith/gamesmith/game/Result;"), (6, .class_ 25), (1, u "java/lang/Enum")] 25

/-- com/example/gamesmith/gamesmith/game/Result -/
def k16 : Class := { plain "com/example/gamesmith/gamesmith/game/Result" (some 15) with
  accessFlags := 16433
  interfaces := #[]
  cf := some (fileOf pool16 1 #[] #[] 16433 23 #[] #[{ accessFlags := 16409, nameIndex := 5, descriptorIndex := 6, attributes := #[] }, { accessFlags := 16409, nameIndex := 9, descriptorIndex := 6, attributes := #[] }, { accessFlags := 16409, nameIndex := 12, descriptorIndex := 6, attributes := #[] }, { accessFlags := 4122, nameIndex := 15, descriptorIndex := 16, attributes := #[] }])
  fields := #[{ name := "WIN", type := (.object "com/example/gamesmith/gamesmith/game/Result"), accessFlags := 16409, slot := 0, constantValue := 0 }, { name := "LOSS", type := (.object "com/example/gamesmith/gamesmith/game/Result"), accessFlags := 16409, slot := 1, constantValue := 0 }, { name := "DRAW", type := (.object "com/example/gamesmith/gamesmith/game/Result"), accessFlags := 16409, slot := 2, constantValue := 0 }, { name := "$VALUES", type := (.array (.object "com/example/gamesmith/gamesmith/game/Result")), accessFlags := 4122, slot := 3, constantValue := 0 }]
  methods := #[]
  instanceTypes := #[(.object "java/lang/String"), .int, .int]
  staticTypes := #[(.object "com/example/gamesmith/gamesmith/game/Result"), (.object "com/example/gamesmith/gamesmith/game/Result"), (.object "com/example/gamesmith/gamesmith/game/Result"), (.array (.object "com/example/gamesmith/gamesmith/game/Result"))]
  resolved := Array.replicate 51 none
  statics := some 1 }

def pool17 : Array CpInfo := pool [(1, .class_ 2), (0, u "java/lang/Math"), (1, .class_ 6), (1, u "java/lang/Object"), (0, u "<init>"), (0, u "()V"), (89, .class_ 100), (1, u "java/lang/Math$RandomNumberGeneratorHolder"), (71, u "negativeZeroFloatBits"), (0, u "J"), (2, u "negativeZeroDoubleBits"), (21, u "max"), (46, u "$assertionsDisabled"), (0, u "Z"), (88, u "(II)I"), (2, u "twoToTheDoubleScaleDown"), (0, u "D"), (4, u "twoToTheDoubleScaleUp"), (9, u "E"), (3, u "PI"), (2, u "TAU"), (2, u "DEGREES_TO_RADIANS"), (0, u "RADIANS_TO_DEGREES")] 94

def k17m0 : Method := { name := "<init>", desc := "()V", sig := { parameters := [], returnType := none }, accessFlags := 2, code := none }
def k17c1 : Code := { maxStack := 2, maxLocals := 2, code := jdk_29_method_65_code, exceptionTable := #[], attributes := #[] }
def k17m1 : Method := { name := "max", desc := "(II)I", sig := { parameters := [.int, .int], returnType := some .int }, accessFlags := 9, code := some k17c1 }
/-- java/lang/Math -/
def k17 : Class := { plain "java/lang/Math" (some 0) with
  accessFlags := 49
  interfaces := #[]
  cf := some (fileOf pool17 1 #[.nestMembers #[98]] #[{ accessFlags := 2, nameIndex := 7, descriptorIndex := 8, attributes := #[] }, { accessFlags := 9, nameIndex := 198, descriptorIndex := 335, attributes := #[] }] 49 4 #[] #[{ accessFlags := 25, nameIndex := 354, descriptorIndex := 339, attributes := #[] }, { accessFlags := 25, nameIndex := 358, descriptorIndex := 339, attributes := #[] }, { accessFlags := 25, nameIndex := 361, descriptorIndex := 339, attributes := #[] }, { accessFlags := 26, nameIndex := 364, descriptorIndex := 339, attributes := #[] }, { accessFlags := 26, nameIndex := 365, descriptorIndex := 339, attributes := #[] }, { accessFlags := 26, nameIndex := 172, descriptorIndex := 173, attributes := #[] }, { accessFlags := 26, nameIndex := 176, descriptorIndex := 173, attributes := #[] }, { accessFlags := 8, nameIndex := 344, descriptorIndex := 339, attributes := #[] }, { accessFlags := 8, nameIndex := 338, descriptorIndex := 339, attributes := #[] }, { accessFlags := 4120, nameIndex := 245, descriptorIndex := 246, attributes := #[] }])
  fields := #[{ name := "E", type := .double, accessFlags := 25, slot := 0, constantValue := 0 }, { name := "PI", type := .double, accessFlags := 25, slot := 1, constantValue := 0 }, { name := "TAU", type := .double, accessFlags := 25, slot := 2, constantValue := 0 }, { name := "DEGREES_TO_RADIANS", type := .double, accessFlags := 26, slot := 3, constantValue := 0 }, { name := "RADIANS_TO_DEGREES", type := .double, accessFlags := 26, slot := 4, constantValue := 0 }, { name := "negativeZeroFloatBits", type := .long, accessFlags := 26, slot := 5, constantValue := 0 }, { name := "negativeZeroDoubleBits", type := .long, accessFlags := 26, slot := 6, constantValue := 0 }, { name := "twoToTheDoubleScaleUp", type := .double, accessFlags := 8, slot := 7, constantValue := 0 }, { name := "twoToTheDoubleScaleDown", type := .double, accessFlags := 8, slot := 8, constantValue := 0 }, { name := "$assertionsDisabled", type := .boolean, accessFlags := 4120, slot := 9, constantValue := 0 }]
  methods := #[k17m0, k17m1]
  instanceTypes := #[]
  staticTypes := #[.double, .double, .double, .double, .double, .long, .long, .double, .double, .boolean]
  resolved := Array.replicate 460 none
  statics := none }

def pool18 : Array CpInfo := pool [(8, .class_ 10), (1, u "com/example/gamesmith/gamesmith/arena/Tally$1"), (0, u "$SwitchMap$com$example$gamesmith$gamesmith$game$Result"), (0, u "[I"), (16, .class_ 30), (0, u "java/lang/Object"), (8, .class_ 40), (0, u "com/example/gamesmith/gamesmith/arena/Tally")] 2

/-- com/example/gamesmith/gamesmith/arena/Tally$1 -/
def k18 : Class := { plain "com/example/gamesmith/gamesmith/arena/Tally$1" (some 0) with
  accessFlags := 4128
  interfaces := #[]
  cf := some (fileOf pool18 8 #[.nestHost 39] #[] 4128 29 #[] #[{ accessFlags := 4120, nameIndex := 11, descriptorIndex := 12, attributes := #[] }])
  fields := #[{ name := "$SwitchMap$com$example$gamesmith$gamesmith$game$Result", type := (.array .int), accessFlags := 4120, slot := 0, constantValue := 0 }]
  methods := #[]
  instanceTypes := #[]
  staticTypes := #[(.array .int)]
  resolved := Array.replicate 43 none
  statics := some 2 }

def pool19 : Array CpInfo := pool [(2, .class_ 4), (1, u "java/lang/Object"), (0, u "<init>"), (0, u "()V"), (35, .class_ 44), (1, u "java/util/Objects"), (60, .methodref 106 107), (0, .class_ 108), (0, .nameAndType 109 110), (0, u "jdk/internal/util/Preconditions"), (0, u "checkIndex"), (0, u "(IILjava/util/function/BiFunction;)I"), (60, u "(II)I")] 12

def k19m0 : Method := { name := "<init>", desc := "()V", sig := { parameters := [], returnType := none }, accessFlags := 2, code := none }
def k19c1 : Code := { maxStack := 3, maxLocals := 2, code := jdk_31_method_17_code, exceptionTable := #[], attributes := #[] }
def k19m1 : Method := { name := "checkIndex", desc := "(II)I", sig := { parameters := [.int, .int], returnType := some .int }, accessFlags := 9, code := some k19c1 }
/-- java/util/Objects -/
def k19 : Class := { plain "java/util/Objects" (some 0) with
  accessFlags := 49
  interfaces := #[]
  cf := some (fileOf pool19 42 #[] #[{ accessFlags := 2, nameIndex := 5, descriptorIndex := 6, attributes := #[] }, { accessFlags := 9, nameIndex := 109, descriptorIndex := 171, attributes := #[] }] 49 2 #[] #[])
  fields := #[]
  methods := #[k19m0, k19m1]
  instanceTypes := #[]
  staticTypes := #[]
  resolved := Array.replicate 184 none
  statics := none }

def pool20 : Array CpInfo := pool [(2, .class_ 4), (1, u "java/lang/Object"), (0, u "<init>"), (0, u "()V"), (17, .class_ 26), (1, u "jdk/internal/util/Preconditions"), (6, u "checkIndex"), (21, .class_ 56), (0, u "jdk/internal/util/Preconditions$4"), (57, .class_ 115), (0, u "jdk/internal/util/Preconditions$1"), (7, u "SIOOBE_FORMATTER"), (0, u "Ljava/util/function/BiFunction;"), (0, .class_ 126), (0, u "jdk/internal/util/Preconditions$2"), (3, u "AIOOBE_FORMATTER"), (0, .class_ 132), (0, u "jdk/internal/util/Preconditions$3"), (3, u "IOOBE_FORMATTER"), (41, u "(IILjava/util/function/BiFunction;)I")] 15

def k20m0 : Method := { name := "<init>", desc := "()V", sig := { parameters := [], returnType := none }, accessFlags := 1, code := none }
def k20c1 : Code := { maxStack := 3, maxLocals := 3, code := jdk_41_method_11_code, exceptionTable := #[], attributes := #[] }
def k20m1 : Method := { name := "checkIndex", desc := "(IILjava/util/function/BiFunction;)I", sig := { parameters := [.int, .int, (.object "java/util/function/BiFunction")], returnType := some .int }, accessFlags := 9, code := some k20c1 }
/-- jdk/internal/util/Preconditions -/
def k20 : Class := { plain "jdk/internal/util/Preconditions" (some 0) with
  accessFlags := 33
  interfaces := #[]
  cf := some (fileOf pool20 24 #[.nestMembers #[55, 131, 125, 114]] #[{ accessFlags := 1, nameIndex := 5, descriptorIndex := 6, attributes := #[] }, { accessFlags := 9, nameIndex := 33, descriptorIndex := 178, attributes := #[] }] 33 2 #[] #[{ accessFlags := 25, nameIndex := 123, descriptorIndex := 124, attributes := #[] }, { accessFlags := 25, nameIndex := 130, descriptorIndex := 124, attributes := #[] }, { accessFlags := 25, nameIndex := 136, descriptorIndex := 124, attributes := #[] }])
  fields := #[{ name := "SIOOBE_FORMATTER", type := (.object "java/util/function/BiFunction"), accessFlags := 25, slot := 0, constantValue := 0 }, { name := "AIOOBE_FORMATTER", type := (.object "java/util/function/BiFunction"), accessFlags := 25, slot := 1, constantValue := 0 }, { name := "IOOBE_FORMATTER", type := (.object "java/util/function/BiFunction"), accessFlags := 25, slot := 2, constantValue := 0 }]
  methods := #[k20m0, k20m1]
  instanceTypes := #[]
  staticTypes := #[(.object "java/util/function/BiFunction"), (.object "java/util/function/BiFunction"), (.object "java/util/function/BiFunction")]
  resolved := Array.replicate 194 none
  statics := none }

/-- the primitive byte -/
def k21 : Class := { plain "byte" none with kind := .primitive 'B', accessFlags := 0x411 }
/-- [B -/
def k22 : Class := { plain "[B" (some 0) with kind := .array 21 .byte, interfaces := #[10, 11], accessFlags := 1041 }

/-- the primitive int -/
def k23 : Class := { plain "int" none with kind := .primitive 'I', accessFlags := 0x411 }
/-- [I -/
def k24 : Class := { plain "[I" (some 0) with kind := .array 23 .int, interfaces := #[10, 11], accessFlags := 1041 }

/-- [Ljava/lang/Object; -/
def k25 : Class := { plain "[Ljava/lang/Object;" (some 0) with kind := .array 0 (.object "java/lang/Object"), interfaces := #[10, 11], accessFlags := 1041 }

def heap : Heap := #[{ cls := 12, slots := #[.long 0, .int 0, .ref 7, .ref 8], vm := .statics 12 },
  { cls := 16, slots := #[.ref 3, .ref 5, .ref 4, .null], vm := .statics 16 },
  { cls := 18, slots := #[.ref 6], vm := .statics 18 },
  { cls := 16, slots := #[.null, .int 0, .int 0], vm := .none },
  { cls := 16, slots := #[.null, .int 2, .int 0], vm := .none },
  { cls := 16, slots := #[.null, .int 1, .int 0], vm := .none },
  { cls := 24, slots := #[.int 1, .int 3, .int 2], vm := .none },
  { cls := 25, slots := #[], vm := .none },
  { cls := 25, slots := #[], vm := .none }]
def classes : Array Class := #[k0, k1, k2, k3, k4, k5, k6, k7, k8, k9, k10, k11, k12, k13, k14, k15, k16, k17, k18, k19, k20, k21, k22, k23, k24, k25]
def interned : List (Array UInt16 × Addr) := []
def slotsUsed : Nat := 21
def theMethod : MethodId := ⟨1, 4⟩
def args0 : Array Value := #[.int 5, .int 3, .int 7, .int 2, .int 1]
def aboutOver (below : List Frame) : State where
  vm := { classes := classes, interned := interned.toArray }
  heap := heap
  slotsUsed := slotsUsed
  threads := #[{ frames := .invoking theMethod args0 :: below }]
def below0 : List Frame := [.native { method := ⟨0, 0⟩, args := #[] }]
def about1 : State := aboutOver below0
def p0 : Program := .bare "" "" ""
def e0 : Env := launch0.env 0 0 0
theorem w_frames : about1.frames = Frame.invoking theMethod args0 :: below0 := rfl
set_option maxRecDepth 65536 in
theorem w_args : argsFit about1.vm theMethod args0 = true := by decide +kernel
set_option maxRecDepth 65536 in
theorem w_heap : heapFits about1 = true := by decide +kernel
set_option maxRecDepth 65536 in
theorem w_runnable : about1.curStatus? = some .runnable := by decide +kernel
set_option maxRecDepth 65536 in
theorem w_alone : about1.alone = true := by decide +kernel
set_option maxRecDepth 65536 in
theorem w_named : about1.methodNamed? x = some theMethod := by decide +kernel
set_option maxRecDepth 65536 in
theorem w_hears : about1.hears theMethod below0 = true := by decide +kernel
set_option maxRecDepth 65536 in
theorem w_ripe : about1.ripe theMethod args0 below0 = true := by decide +kernel
theorem w_running : about1.status = .running := rfl
set_option maxRecDepth 65536 in
theorem w_room : about1.hasRoom e0.platform room_1 = true :=
  launch0.hasRoom_least _ room_1 (by decide +kernel) (by decide +kernel) (by decide +kernel) (by decide +kernel) (by decide +kernel) (by decide +kernel)
theorem allAtoms_all (ts : List Jvm.Cond) (a : Array Jvm.Value) (st : Jvm.State) : (allAtoms ts).before a st = ts.all (fun c => c.before a st) := by
  induction ts with
  | nil => rfl
  | cons c t ih =>
    show (Jvm.Cond.and c (allAtoms t)).before a st = _
    rw [Jvm.Cond.before_and, ih, List.all_cons]
def words1 : List Jvm.Cond := Jvm.Cond.code x code maxLocals ret :: tables_1
/-- a 'code' word, met by the world's own term for the bytes: nothing is compared byte by byte -/
theorem code_word {y : MethodName} {bytes : ByteArray} {mx : Nat} {rt : Option FieldType} {a : Array Value} {s : State} {m : MethodId} {meth : Method} {c : Code} (h1 : s.methodNamed? y = some m) (h2 : s.vm.method? m = some meth) (h3 : meth.code = some c) (h4 : c.code = bytes)
    (h5 : (c.maxLocals == mx && c.exceptionTable.isEmpty && decide (c.maxStack ≤ mostOperands) && decide (meth.sig.returnType = rt) && !meth.locks && decide (parseMethodDescriptor y.desc = some meth.sig)) = true) : (Jvm.Cond.code y bytes mx rt).before a s = true := by
  simp only [Bool.and_eq_true, beq_iff_eq, Bool.not_eq_true', decide_eq_true_eq] at h5
  obtain ⟨⟨⟨⟨⟨g1, g2⟩, g3⟩, g4⟩, g5⟩, g6⟩ := h5
  simp [Cond.before, Cond.holds, Cond.value, h1, h2, h3, h4, g1, g2, g3, g4, g5, g6]
def isCode : Jvm.Cond → Bool
  | .code _ _ _ _ => true
  | _ => false
theorem all_split {L : List Jvm.Cond} {P : Jvm.Cond → Bool} (h1 : L.all (fun c => isCode c || P c) = true) (h2 : ∀ c ∈ L.filter isCode, P c = true) : L.all P = true := by
  refine List.all_eq_true.mpr fun c hc => ?_
  have h := List.all_eq_true.mp h1 c hc
  rcases Bool.eq_false_or_eq_true (isCode c) with hi | hi
  · exact h2 c (List.mem_filter.mpr ⟨hc, hi⟩)
  · simpa [hi] using h
set_option maxRecDepth 65536 in
theorem w_c0 : (Jvm.Cond.code x code maxLocals ret).before args0 about1 = true := code_word (m := ⟨1, 4⟩) (meth := k1m4) (c := k1c4) (by decide +kernel) rfl rfl rfl (by decide +kernel)
set_option maxRecDepth 65536 in
theorem w_c1 : (Jvm.Cond.code ({ cls := "com/example/gamesmith/gamesmith/arena/TallyAddPinLaw", name := "code", desc := "(I)I" } : Jvm.MethodName) method_2_code (1 : Nat) (Option.some Jvm.ClassFile.FieldType.int)).before args0 about1 = true := code_word (m := ⟨1, 1⟩) (meth := k1m1) (c := k1c1) (by decide +kernel) rfl rfl rfl (by decide +kernel)
set_option maxRecDepth 65536 in
theorem w_c2 : (Jvm.Cond.code ({ cls := "com/example/gamesmith/gamesmith/arena/Tally", name := "<init>", desc := "(I)V" } : Jvm.MethodName) prog_6_method_1_code (2 : Nat) (Option.none : Option Jvm.ClassFile.FieldType)).before args0 about1 = true := code_word (m := ⟨2, 0⟩) (meth := k2m0) (c := k2c0) (by decide +kernel) rfl rfl rfl (by decide +kernel)
set_option maxRecDepth 65536 in
theorem w_c3 : (Jvm.Cond.code ({ cls := "java/lang/Object", name := "<init>", desc := "()V" } : Jvm.MethodName) object_method_1_code (1 : Nat) (Option.none : Option Jvm.ClassFile.FieldType)).before args0 about1 = true := code_word (m := ⟨0, 0⟩) (meth := k0m0) (c := k0c0) (by decide +kernel) rfl rfl rfl (by decide +kernel)
set_option maxRecDepth 65536 in
theorem w_c4 : (Jvm.Cond.code ({ cls := "java/util/ArrayList", name := "<init>", desc := "()V" } : Jvm.MethodName) jdk_38_method_2_code (1 : Nat) (Option.none : Option Jvm.ClassFile.FieldType)).before args0 about1 = true := code_word (m := ⟨12, 0⟩) (meth := k12m0) (c := k12c0) (by decide +kernel) rfl rfl rfl (by decide +kernel)
set_option maxRecDepth 65536 in
theorem w_c5 : (Jvm.Cond.code ({ cls := "java/util/AbstractList", name := "<init>", desc := "()V" } : Jvm.MethodName) jdk_39_method_1_code (1 : Nat) (Option.none : Option Jvm.ClassFile.FieldType)).before args0 about1 = true := code_word (m := ⟨8, 0⟩) (meth := k8m0) (c := k8c0) (by decide +kernel) rfl rfl rfl (by decide +kernel)
set_option maxRecDepth 65536 in
theorem w_c6 : (Jvm.Cond.code ({ cls := "java/util/AbstractCollection", name := "<init>", desc := "()V" } : Jvm.MethodName) jdk_22_method_1_code (1 : Nat) (Option.none : Option Jvm.ClassFile.FieldType)).before args0 about1 = true := code_word (m := ⟨5, 0⟩) (meth := k5m0) (c := k5c0) (by decide +kernel) rfl rfl rfl (by decide +kernel)
set_option maxRecDepth 65536 in
theorem w_c7 : (Jvm.Cond.code ({ cls := "com/example/gamesmith/gamesmith/arena/TallyAddPinLaw", name := "res", desc := "(I)Lcom/example/gamesmith/gamesmith/game/Result;" } : Jvm.MethodName) method_3_code (1 : Nat) (Option.some (Jvm.ClassFile.FieldType.object "com/example/gamesmith/gamesmith/game/Result"))).before args0 about1 = true := code_word (m := ⟨1, 2⟩) (meth := k1m2) (c := k1c2) (by decide +kernel) rfl rfl rfl (by decide +kernel)
set_option maxRecDepth 65536 in
theorem w_c8 : (Jvm.Cond.code ({ cls := "java/util/ArrayList", name := "add", desc := "(Ljava/lang/Object;)Z" } : Jvm.MethodName) jdk_38_method_25_code (2 : Nat) (Option.some Jvm.ClassFile.FieldType.boolean)).before args0 about1 = true := code_word (m := ⟨12, 7⟩) (meth := k12m7) (c := k12c7) (by decide +kernel) rfl rfl rfl (by decide +kernel)
set_option maxRecDepth 65536 in
theorem w_c9 : (Jvm.Cond.code ({ cls := "java/util/ArrayList", name := "add", desc := "(Ljava/lang/Object;[Ljava/lang/Object;I)V" } : Jvm.MethodName) jdk_38_method_24_code (4 : Nat) (Option.none : Option Jvm.ClassFile.FieldType)).before args0 about1 = true := code_word (m := ⟨12, 6⟩) (meth := k12m6) (c := k12c6) (by decide +kernel) rfl rfl rfl (by decide +kernel)
set_option maxRecDepth 65536 in
theorem w_c10 : (Jvm.Cond.code ({ cls := "java/util/ArrayList", name := "grow", desc := "()[Ljava/lang/Object;" } : Jvm.MethodName) jdk_38_method_7_code (1 : Nat) (Option.some (Jvm.ClassFile.FieldType.array (Jvm.ClassFile.FieldType.object "java/lang/Object")))).before args0 about1 = true := code_word (m := ⟨12, 2⟩) (meth := k12m2) (c := k12c2) (by decide +kernel) rfl rfl rfl (by decide +kernel)
set_option maxRecDepth 65536 in
theorem w_c11 : (Jvm.Cond.code ({ cls := "java/util/ArrayList", name := "grow", desc := "(I)[Ljava/lang/Object;" } : Jvm.MethodName) jdk_38_method_6_code (4 : Nat) (Option.some (Jvm.ClassFile.FieldType.array (Jvm.ClassFile.FieldType.object "java/lang/Object")))).before args0 about1 = true := code_word (m := ⟨12, 1⟩) (meth := k12m1) (c := k12c1) (by decide +kernel) rfl rfl rfl (by decide +kernel)
set_option maxRecDepth 65536 in
theorem w_c12 : (Jvm.Cond.code ({ cls := "java/lang/Math", name := "max", desc := "(II)I" } : Jvm.MethodName) jdk_29_method_65_code (2 : Nat) (Option.some Jvm.ClassFile.FieldType.int)).before args0 about1 = true := code_word (m := ⟨17, 1⟩) (meth := k17m1) (c := k17c1) (by decide +kernel) rfl rfl rfl (by decide +kernel)
set_option maxRecDepth 65536 in
theorem w_c13 : (Jvm.Cond.code ({ cls := "com/example/gamesmith/gamesmith/arena/Tally", name := "record", desc := "(Ljava/util/List;)V" } : Jvm.MethodName) prog_6_method_2_code (4 : Nat) (Option.none : Option Jvm.ClassFile.FieldType)).before args0 about1 = true := code_word (m := ⟨2, 1⟩) (meth := k2m1) (c := k2c1) (by decide +kernel) rfl rfl rfl (by decide +kernel)
set_option maxRecDepth 65536 in
theorem w_c14 : (Jvm.Cond.code ({ cls := "java/util/ArrayList", name := "size", desc := "()I" } : Jvm.MethodName) jdk_38_method_8_code (1 : Nat) (Option.some Jvm.ClassFile.FieldType.int)).before args0 about1 = true := code_word (m := ⟨12, 3⟩) (meth := k12m3) (c := k12c3) (by decide +kernel) rfl rfl rfl (by decide +kernel)
set_option maxRecDepth 65536 in
theorem w_c15 : (Jvm.Cond.code ({ cls := "java/util/ArrayList", name := "get", desc := "(I)Ljava/lang/Object;" } : Jvm.MethodName) jdk_38_method_20_code (2 : Nat) (Option.some (Jvm.ClassFile.FieldType.object "java/lang/Object"))).before args0 about1 = true := code_word (m := ⟨12, 5⟩) (meth := k12m5) (c := k12c5) (by decide +kernel) rfl rfl rfl (by decide +kernel)
set_option maxRecDepth 65536 in
theorem w_c16 : (Jvm.Cond.code ({ cls := "java/util/Objects", name := "checkIndex", desc := "(II)I" } : Jvm.MethodName) jdk_31_method_17_code (2 : Nat) (Option.some Jvm.ClassFile.FieldType.int)).before args0 about1 = true := code_word (m := ⟨19, 1⟩) (meth := k19m1) (c := k19c1) (by decide +kernel) rfl rfl rfl (by decide +kernel)
set_option maxRecDepth 65536 in
theorem w_c17 : (Jvm.Cond.code ({ cls := "jdk/internal/util/Preconditions", name := "checkIndex", desc := "(IILjava/util/function/BiFunction;)I" } : Jvm.MethodName) jdk_41_method_11_code (3 : Nat) (Option.some Jvm.ClassFile.FieldType.int)).before args0 about1 = true := code_word (m := ⟨20, 1⟩) (meth := k20m1) (c := k20c1) (by decide +kernel) rfl rfl rfl (by decide +kernel)
set_option maxRecDepth 65536 in
theorem w_c18 : (Jvm.Cond.code ({ cls := "java/util/ArrayList", name := "elementData", desc := "(I)Ljava/lang/Object;" } : Jvm.MethodName) jdk_38_method_18_code (2 : Nat) (Option.some (Jvm.ClassFile.FieldType.object "java/lang/Object"))).before args0 about1 = true := code_word (m := ⟨12, 4⟩) (meth := k12m4) (c := k12c4) (by decide +kernel) rfl rfl rfl (by decide +kernel)
set_option maxRecDepth 65536 in
theorem w_c19 : (Jvm.Cond.code ({ cls := "java/lang/Enum", name := "ordinal", desc := "()I" } : Jvm.MethodName) jdk_37_method_2_code (1 : Nat) (Option.some Jvm.ClassFile.FieldType.int)).before args0 about1 = true := code_word (m := ⟨15, 0⟩) (meth := k15m0) (c := k15c0) (by decide +kernel) rfl rfl rfl (by decide +kernel)
set_option maxRecDepth 65536 in
theorem w_c20 : (Jvm.Cond.code ({ cls := "com/example/gamesmith/gamesmith/arena/Tally", name := "add", desc := "(Lcom/example/gamesmith/gamesmith/arena/Tally;)V" } : Jvm.MethodName) prog_6_method_3_code (3 : Nat) (Option.none : Option Jvm.ClassFile.FieldType)).before args0 about1 = true := code_word (m := ⟨2, 2⟩) (meth := k2m2) (c := k2c2) (by decide +kernel) rfl rfl rfl (by decide +kernel)
set_option maxRecDepth 65536 in
theorem w_c21 : (Jvm.Cond.code ({ cls := "com/example/gamesmith/gamesmith/arena/TallyAddPinLaw", name := "is", desc := "(II)I" } : Jvm.MethodName) method_4_code (2 : Nat) (Option.some Jvm.ClassFile.FieldType.int)).before args0 about1 = true := code_word (m := ⟨1, 3⟩) (meth := k1m3) (c := k1c3) (by decide +kernel) rfl rfl rfl (by decide +kernel)
set_option maxRecDepth 65536 in
theorem w_c22 : (Jvm.Cond.code ({ cls := "com/example/gamesmith/gamesmith/arena/Tally", name := "matches", desc := "()I" } : Jvm.MethodName) prog_6_method_4_code (1 : Nat) (Option.some Jvm.ClassFile.FieldType.int)).before args0 about1 = true := code_word (m := ⟨2, 3⟩) (meth := k2m3) (c := k2c3) (by decide +kernel) rfl rfl rfl (by decide +kernel)
set_option maxRecDepth 65536 in
theorem w_c23 : (Jvm.Cond.code ({ cls := "com/example/gamesmith/gamesmith/arena/Tally", name := "drawnMatches", desc := "()I" } : Jvm.MethodName) prog_6_method_5_code (1 : Nat) (Option.some Jvm.ClassFile.FieldType.int)).before args0 about1 = true := code_word (m := ⟨2, 4⟩) (meth := k2m4) (c := k2c4) (by decide +kernel) rfl rfl rfl (by decide +kernel)
set_option maxRecDepth 65536 in
theorem w_c24 : (Jvm.Cond.code ({ cls := "com/example/gamesmith/gamesmith/arena/Tally", name := "wins", desc := "(I)I" } : Jvm.MethodName) prog_6_method_6_code (2 : Nat) (Option.some Jvm.ClassFile.FieldType.int)).before args0 about1 = true := code_word (m := ⟨2, 5⟩) (meth := k2m5) (c := k2c5) (by decide +kernel) rfl rfl rfl (by decide +kernel)
set_option maxRecDepth 65536 in
theorem w_c25 : (Jvm.Cond.code ({ cls := "com/example/gamesmith/gamesmith/arena/Tally", name := "losses", desc := "(I)I" } : Jvm.MethodName) prog_6_method_8_code (2 : Nat) (Option.some Jvm.ClassFile.FieldType.int)).before args0 about1 = true := code_word (m := ⟨2, 7⟩) (meth := k2m7) (c := k2c7) (by decide +kernel) rfl rfl rfl (by decide +kernel)
set_option maxRecDepth 65536 in
theorem w_c26 : (Jvm.Cond.code ({ cls := "com/example/gamesmith/gamesmith/arena/Tally", name := "draws", desc := "(I)I" } : Jvm.MethodName) prog_6_method_7_code (2 : Nat) (Option.some Jvm.ClassFile.FieldType.int)).before args0 about1 = true := code_word (m := ⟨2, 6⟩) (meth := k2m6) (c := k2c6) (by decide +kernel) rfl rfl rfl (by decide +kernel)
def codes1 : List Jvm.Cond := [Jvm.Cond.code x code maxLocals ret, Jvm.Cond.code ({ cls := "com/example/gamesmith/gamesmith/arena/TallyAddPinLaw", name := "code", desc := "(I)I" } : Jvm.MethodName) method_2_code (1 : Nat) (Option.some Jvm.ClassFile.FieldType.int), Jvm.Cond.code ({ cls := "com/example/gamesmith/gamesmith/arena/Tally", name := "<init>", desc := "(I)V" } : Jvm.MethodName) prog_6_method_1_code (2 : Nat) (Option.none : Option Jvm.ClassFile.FieldType), Jvm.Cond.code ({ cls := "java/lang/Object", name := "<init>", desc := "()V" } : Jvm.MethodName) object_method_1_code (1 : Nat) (Option.none : Option Jvm.ClassFile.FieldType), Jvm.Cond.code ({ cls := "java/util/ArrayList", name := "<init>", desc := "()V" } : Jvm.MethodName) jdk_38_method_2_code (1 : Nat) (Option.none : Option Jvm.ClassFile.FieldType), Jvm.Cond.code ({ cls := "java/util/AbstractList", name := "<init>", desc := "()V" } : Jvm.MethodName) jdk_39_method_1_code (1 : Nat) (Option.none : Option Jvm.ClassFile.FieldType), Jvm.Cond.code ({ cls := "java/util/AbstractCollection", name := "<init>", desc := "()V" } : Jvm.MethodName) jdk_22_method_1_code (1 : Nat) (Option.none : Option Jvm.ClassFile.FieldType), Jvm.Cond.code ({ cls := "com/example/gamesmith/gamesmith/arena/TallyAddPinLaw", name := "res", desc := "(I)Lcom/example/gamesmith/gamesmith/game/Result;" } : Jvm.MethodName) method_3_code (1 : Nat) (Option.some (Jvm.ClassFile.FieldType.object "com/example/gamesmith/gamesmith/game/Result")), Jvm.Cond.code ({ cls := "java/util/ArrayList", name := "add", desc := "(Ljava/lang/Object;)Z" } : Jvm.MethodName) jdk_38_method_25_code (2 : Nat) (Option.some Jvm.ClassFile.FieldType.boolean), Jvm.Cond.code ({ cls := "java/util/ArrayList", name := "add", desc := "(Ljava/lang/Object;[Ljava/lang/Object;I)V" } : Jvm.MethodName) jdk_38_method_24_code (4 : Nat) (Option.none : Option Jvm.ClassFile.FieldType), Jvm.Cond.code ({ cls := "java/util/ArrayList", name := "grow", desc := "()[Ljava/lang/Object;" } : Jvm.MethodName) jdk_38_method_7_code (1 : Nat) (Option.some (Jvm.ClassFile.FieldType.array (Jvm.ClassFile.FieldType.object "java/lang/Object"))), Jvm.Cond.code ({ cls := "java/util/ArrayList", name := "grow", desc := "(I)[Ljava/lang/Object;" } : Jvm.MethodName) jdk_38_method_6_code (4 : Nat) (Option.some (Jvm.ClassFile.FieldType.array (Jvm.ClassFile.FieldType.object "java/lang/Object"))), Jvm.Cond.code ({ cls := "java/lang/Math", name := "max", desc := "(II)I" } : Jvm.MethodName) jdk_29_method_65_code (2 : Nat) (Option.some Jvm.ClassFile.FieldType.int), Jvm.Cond.code ({ cls := "com/example/gamesmith/gamesmith/arena/Tally", name := "record", desc := "(Ljava/util/List;)V" } : Jvm.MethodName) prog_6_method_2_code (4 : Nat) (Option.none : Option Jvm.ClassFile.FieldType), Jvm.Cond.code ({ cls := "java/util/ArrayList", name := "size", desc := "()I" } : Jvm.MethodName) jdk_38_method_8_code (1 : Nat) (Option.some Jvm.ClassFile.FieldType.int), Jvm.Cond.code ({ cls := "java/util/ArrayList", name := "get", desc := "(I)Ljava/lang/Object;" } : Jvm.MethodName) jdk_38_method_20_code (2 : Nat) (Option.some (Jvm.ClassFile.FieldType.object "java/lang/Object")), Jvm.Cond.code ({ cls := "java/util/Objects", name := "checkIndex", desc := "(II)I" } : Jvm.MethodName) jdk_31_method_17_code (2 : Nat) (Option.some Jvm.ClassFile.FieldType.int), Jvm.Cond.code ({ cls := "jdk/internal/util/Preconditions", name := "checkIndex", desc := "(IILjava/util/function/BiFunction;)I" } : Jvm.MethodName) jdk_41_method_11_code (3 : Nat) (Option.some Jvm.ClassFile.FieldType.int), Jvm.Cond.code ({ cls := "java/util/ArrayList", name := "elementData", desc := "(I)Ljava/lang/Object;" } : Jvm.MethodName) jdk_38_method_18_code (2 : Nat) (Option.some (Jvm.ClassFile.FieldType.object "java/lang/Object")), Jvm.Cond.code ({ cls := "java/lang/Enum", name := "ordinal", desc := "()I" } : Jvm.MethodName) jdk_37_method_2_code (1 : Nat) (Option.some Jvm.ClassFile.FieldType.int), Jvm.Cond.code ({ cls := "com/example/gamesmith/gamesmith/arena/Tally", name := "add", desc := "(Lcom/example/gamesmith/gamesmith/arena/Tally;)V" } : Jvm.MethodName) prog_6_method_3_code (3 : Nat) (Option.none : Option Jvm.ClassFile.FieldType), Jvm.Cond.code ({ cls := "com/example/gamesmith/gamesmith/arena/TallyAddPinLaw", name := "is", desc := "(II)I" } : Jvm.MethodName) method_4_code (2 : Nat) (Option.some Jvm.ClassFile.FieldType.int), Jvm.Cond.code ({ cls := "com/example/gamesmith/gamesmith/arena/Tally", name := "matches", desc := "()I" } : Jvm.MethodName) prog_6_method_4_code (1 : Nat) (Option.some Jvm.ClassFile.FieldType.int), Jvm.Cond.code ({ cls := "com/example/gamesmith/gamesmith/arena/Tally", name := "drawnMatches", desc := "()I" } : Jvm.MethodName) prog_6_method_5_code (1 : Nat) (Option.some Jvm.ClassFile.FieldType.int), Jvm.Cond.code ({ cls := "com/example/gamesmith/gamesmith/arena/Tally", name := "wins", desc := "(I)I" } : Jvm.MethodName) prog_6_method_6_code (2 : Nat) (Option.some Jvm.ClassFile.FieldType.int), Jvm.Cond.code ({ cls := "com/example/gamesmith/gamesmith/arena/Tally", name := "losses", desc := "(I)I" } : Jvm.MethodName) prog_6_method_8_code (2 : Nat) (Option.some Jvm.ClassFile.FieldType.int), Jvm.Cond.code ({ cls := "com/example/gamesmith/gamesmith/arena/Tally", name := "draws", desc := "(I)I" } : Jvm.MethodName) prog_6_method_7_code (2 : Nat) (Option.some Jvm.ClassFile.FieldType.int)]
set_option maxRecDepth 65536 in
theorem codes_eq : words1.filter isCode = codes1 := rfl
theorem w_codes : ∀ c ∈ words1.filter isCode, c.before args0 about1 = true := by
  rw [codes_eq]
  intro c hc
  simp only [codes1, List.mem_cons, List.not_mem_nil, or_false] at hc
  rcases hc with rfl | rfl | rfl | rfl | rfl | rfl | rfl | rfl | rfl | rfl | rfl | rfl | rfl | rfl | rfl | rfl | rfl | rfl | rfl | rfl | rfl | rfl | rfl | rfl | rfl | rfl | rfl
  · exact w_c0
  · exact w_c1
  · exact w_c2
  · exact w_c3
  · exact w_c4
  · exact w_c5
  · exact w_c6
  · exact w_c7
  · exact w_c8
  · exact w_c9
  · exact w_c10
  · exact w_c11
  · exact w_c12
  · exact w_c13
  · exact w_c14
  · exact w_c15
  · exact w_c16
  · exact w_c17
  · exact w_c18
  · exact w_c19
  · exact w_c20
  · exact w_c21
  · exact w_c22
  · exact w_c23
  · exact w_c24
  · exact w_c25
  · exact w_c26
set_option maxRecDepth 65536 in
theorem w_t1 : (words1.take 24).all (fun c => isCode c || c.before args0 about1) = true := by decide +kernel
set_option maxRecDepth 65536 in
theorem w_t2 : ((words1.drop 24).take 24).all (fun c => isCode c || c.before args0 about1) = true := by decide +kernel
set_option maxRecDepth 65536 in
theorem w_t3 : (((words1.drop 24).drop 24).take 24).all (fun c => isCode c || c.before args0 about1) = true := by decide +kernel
set_option maxRecDepth 65536 in
theorem w_t4 : ((((words1.drop 24).drop 24).drop 24).take 24).all (fun c => isCode c || c.before args0 about1) = true := by decide +kernel
set_option maxRecDepth 65536 in
theorem w_t5 : (((((words1.drop 24).drop 24).drop 24).drop 24).take 24).all (fun c => isCode c || c.before args0 about1) = true := by decide +kernel
set_option maxRecDepth 65536 in
theorem w_t6 : ((((((words1.drop 24).drop 24).drop 24).drop 24).drop 24).take 24).all (fun c => isCode c || c.before args0 about1) = true := by decide +kernel
set_option maxRecDepth 65536 in
theorem w_t7 : (((((((words1.drop 24).drop 24).drop 24).drop 24).drop 24).drop 24).take 24).all (fun c => isCode c || c.before args0 about1) = true := by decide +kernel
set_option maxRecDepth 65536 in
theorem w_t8 : (((((((words1.drop 24).drop 24).drop 24).drop 24).drop 24).drop 24).drop 24).all (fun c => isCode c || c.before args0 about1) = true := by decide +kernel
theorem w_tables : (allAtoms (Jvm.Cond.code x code maxLocals ret :: tables_1)).before args0 about1 = true := by
  rw [allAtoms_all]
  show words1.all (fun c => c.before args0 about1) = true
  refine all_split ?_ w_codes
  rw [← List.take_append_drop 24 words1, List.all_append, w_t1, ← List.take_append_drop 24 (words1.drop 24), List.all_append, w_t2, ← List.take_append_drop 24 ((words1.drop 24).drop 24), List.all_append, w_t3, ← List.take_append_drop 24 (((words1.drop 24).drop 24).drop 24), List.all_append, w_t4, ← List.take_append_drop 24 ((((words1.drop 24).drop 24).drop 24).drop 24), List.all_append, w_t5, ← List.take_append_drop 24 (((((words1.drop 24).drop 24).drop 24).drop 24).drop 24), List.all_append, w_t6, ← List.take_append_drop 24 ((((((words1.drop 24).drop 24).drop 24).drop 24).drop 24).drop 24), List.all_append, w_t7, w_t8]
  rfl
set_option maxRecDepth 65536 in
theorem w_rest : rest_1_c.before args0 about1 = true := by decide +kernel
set_option maxRecDepth 65536 in
theorem w_case : (Jvm.Cond.and given_1 narrow_1).before args0 about1 = true := by decide +kernel
theorem w_applies : (headSpec (Jvm.Cond.code x code maxLocals ret :: tables_1) room_1).applies x e0.platform about1 = true :=
  (Spec.applies_iff w_frames).mpr ⟨w_running, w_runnable, w_alone, w_named, w_hears, w_ripe, w_room, w_tables⟩
theorem atStart : AtStart classFile x code maxLocals ret World_1 tables_1 room_1 Calls_1 rest_1 Pre_1 launch0 p0 e0 about1 theMethod args0 below0 :=
  ⟨lists_1, trivial, launch0.admits_env _ _ _, launch0.least_env, fairChoices_fair.cas, fairChoices_fair.clock, w_frames, w_args, w_heap, w_applies, trivial, w_rest, w_case⟩
end start1
theorem witness_1 : WitnessClaimed_1 := ⟨start1.p0, start1.e0, start1.about1, start1.theMethod, start1.args0, start1.below0, start1.atStart⟩
end Jvm.Pilot.@@N@@
